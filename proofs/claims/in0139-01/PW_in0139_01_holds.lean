import PyProof.Rows.All
import Wide.All
import OpenK.AllK
import Wide.FinOn
import Lean
import PySem.Challenge.RW_in0139_01
set_option Elab.async false
set_option genInjectivity false
set_option genSizeOf false
set_option maxRecDepth 100000
set_option linter.unusedVariables false
set_option linter.unusedSectionVars false
/-! The law, in parts.
1. An evaluator of the model's trees over letters (addresses, tokens, texts are variables), with a ledger of objects, and its soundness (`Spec`, `SpecT`).
2. Contracts of the builtins that the law calls, proved from the library's lemmas; contracts of the program's functions and loop turns, each a kernel check over the top's objects (`Checks`).
3. The composition, by induction over words, cells and steps, up to the contract of the law (`sLaw`, `law_end`).
4. The head, the checks, the theorem. -/
section
open PySem PySem.W PySem.W.X PyProof.Rows
noncomputable section
namespace Mine
/-! The evaluator: it runs a tree with addresses that are letters; an oracle `o` names where each object lies in the ledger. -/
noncomputable abbrev Led := List (Addr × Obj)
/-- what an outcome brings that is not known before: numbers, rows of numbers, objects -/
structure Ov where
  n : Nat → Nat
  m : Nat → Nat → Nat
  o : Nat → Obj
  p : Pos
  b : List (Code × Pos)
structure Rc where
  code : Code
  lvl : Nat
  pre : List (Addr × Obj)
  post : Ov → List Obj
  new : Ov → Led
  res : Ov → Result
  fr : Option (List Env) := none
inductive Rcs where
  | nil
  | cons (f : Code → Rc) (rest : Ov → Rcs)
inductive It where
  | f (x : Option (List Env))
  | a (x : Addr)
  | o (x : Obj)
  | c (x : Code)
inductive Out where
  | bad (n : Nat)
  | done (r : Result) (led : Led) (n t : Nat) (L1 L2 : List It)
  | loop (c : Code) (led : Led) (n t : Nat) (L1 L2 : List It)
noncomputable def nth (l : Led) : Nat → Option (Addr × Obj) := List.rec (motive := fun _ => Nat → Option (Addr × Obj)) (fun _ => none) (fun p _ ih i => Nat.rec (motive := fun _ => Option (Addr × Obj)) (some p) (fun j _ => ih j) i) l
noncomputable def setL (l : Led) : Nat → Obj → Led := List.rec (motive := fun _ => Nat → Obj → Led) (fun _ _ => []) (fun p t ih i o => Nat.rec (motive := fun _ => Led) ((p.1, o) :: t) (fun j _ => p :: ih j o) i) l
theorem nth_eq : ∀ (l : Led) (i : Nat), nth l i = l[i]?
  | [], _ => rfl
  | _ :: _, 0 => rfl
  | _ :: l, i + 1 => nth_eq l i
theorem setL_eq : ∀ (l : Led) (i : Nat) (o : Obj), setL l i o = l.modify i (fun p => (p.1, o))
  | [], i, _ => by simp [setL]
  | p :: l, 0, o => rfl
  | p :: l, i + 1, o => by
    show p :: setL l i o = _
    rw [setL_eq l i o, List.modify_succ_cons]
noncomputable def memB (i : Nat) (l : List Nat) : Bool := List.rec (motive := fun _ => Bool) false (fun j _ ih => match Nat.beq i j with | true => true | false => ih) l
structure Ck where
  o : Nat
  is : List Nat
  L1 : List It
  L2 : List It
noncomputable def chk (pre : List (Addr × Obj)) (led : Led) : Nat → List Nat → List It → List It → Option Ck :=
  List.rec (motive := fun _ => Nat → List Nat → List It → List It → Option Ck) (fun o is a b => some ⟨o, is, a, b⟩)
    (fun q _ ih o is a b => match memB (o % 256) is with
      | true => none
      | false => match nth led (o % 256) with
        | some p => ih (o / 256) (o % 256 :: is) (.a p.1 :: .o p.2 :: a) (.a q.1 :: .o q.2 :: b)
        | none => none) pre
noncomputable def puts (is : List Nat) : List Obj → Led → Led :=
  List.rec (motive := fun _ => List Obj → Led → Led) (fun _ l => l)
    (fun i _ ih os l => List.rec (motive := fun _ => Led) l (fun o os' _ => ih os' (setL l i o)) os) is
/-- a call of a def, its frame's room granted -/
noncomputable def callF (self : Addr) (fd : FuncData) (args : Args) : Sem Fin := do
  let compiled ← match fd.code with
    | .none => pure fd.qualname
    | c => do match ← field c 1 with
      | .str q _ => pure q
      | _ => pure fd.qualname
  let env ← newFunctionEnv fd.scope fd.globals fd.closure (← bindArgs fd args) (compiled ++ ".<locals>.") (some self) fd.code none fd.builtins
  again (match fd.body with
    | .stmts b => .func b env
    | .expr e => .expr e env)
noncomputable def callFZ (self : Addr) (fd : FuncData) (args : Args) : Sem Fin := do
  let compiled ← match fd.code with
    | .none => pure fd.qualname
    | c => do match ← PySem.W.ZFast.zw6609576154772507232 c 1 with
      | .str q _ => pure q
      | _ => pure fd.qualname
  let env ← @PySem.W.ZFast.zw11113344188204177931 fd.scope fd.globals fd.closure (← PySem.W.ZFast.zw9782568553167038054 fd args) (compiled ++ ".<locals>.") (some self) fd.code none fd.builtins
  again (match fd.body with
    | .stmts b => .func b env
    | .expr e => .expr e env)
theorem callF_eq : callF = callFZ := by
  unfold callF callFZ
  rw [← PySem.W.ZFast.ze6609576154772507232, ← PySem.W.ZFast.ze11113344188204177931, ← PySem.W.ZFast.ze9782568553167038054]
noncomputable def den : Code → Sem Fin := PySem.W.ZFast.zw11892475500146522536 PySem.W.ZFast.tableZ
theorem den_eq : den = denote table := by
  unfold den
  rw [← PySem.W.ZFast.ze11892475500146522536, ← PySem.W.ZFast.tableZ_eq]
noncomputable def noGen (s : Scope) : Bool := match s.isGenerator, s.isCoroutine with
  | false, false => true
  | _, _ => false
noncomputable def den' (c : Code) : Sem Fin := match c with
  | .call f args => match f with
    | .ref a => .load a none fun o => match o.data with
      | .func fd => match noGen fd.scope with
        | true => callFZ a fd args
        | false => .unsupported ""
      | _ => den (.call (.ref a) args)
    | f => den (.call f args)
  | c => den c
noncomputable def quietZ (c : Code) : Bool := match c with
  | .builtin id args => PySem.W.ZFast.zw17772548960776305114 (.builtin id args)
  | _ => true
noncomputable abbrev EvTy := Nat → Code → Kont → Sem Fin → Nat → Rcs → (Nat → Ov) → Led → Nat → Nat → List It → List It → Out
noncomputable def shift (xs : Nat → Ov) : Nat → Ov := fun i => xs (i + 1)
noncomputable def framesK : Kont → List Env
  | .ret c _ _ κ => c.envs ++ framesK κ
  | _ => []
noncomputable def frOf (fr₀ want : Option (List Env)) (own : List Env) : Option (List Env) := match want with
  | none => none
  | some _ => match fr₀ with
    | none => none
    | some b => some (own ++ b)
noncomputable def retE (ih : EvTy) (r : Result) (dep : Nat) (κ : Kont) (o : Nat) (R : Rcs) (xs : Nat → Ov) (led : Led) (n t : Nat) (L1 L2 : List It) : Out := match κ with
  | .base => .done r led n t L1 L2
  | .ret c _ k κ => ih (dep - 6) c κ (k r) o R xs led n t L1 L2
  | _ => .bad 1
noncomputable def evS (stg : Setting) (top : KT) (lp : Bool) (fr₀ : Option (List Env)) (ih : EvTy) : EvTy := fun dep c κ t o R xs led n tk L1 L2 => match t with
  | .pure fin => match fin with
    | .done f => retE ih (.ok f) dep κ o R xs led n tk L1 L2
    | .again c' => match quietZ c' with
      | true => match o % 256 with
        | 0 => ih dep c' κ (den' c') (o / 256) R xs led n tk L1 L2
        | 1 => match κ, lp with
          | .base, true => .loop c' led n tk L1 L2
          | _, _ => .bad 14
        | _ + 2 => match R with
          | .nil => .bad 11
          | .cons f rest => match Nat.ble dep (f c').lvl with
            | false => .bad 12
            | true => match chk (f c').pre led (o / 256) [] (.f (frOf fr₀ (f c').fr (framesK κ)) :: .c c' :: L1) (.f (f c').fr :: .c (f c').code :: L2) with
              | none => .bad 13
              | some q => retE ih ((f c').res (xs 0)) dep κ q.o (rest (xs 0)) (shift xs) ((f c').new (xs 0) ++ puts (List.reverse q.is) ((f c').post (xs 0)) led) ((xs 0).n 0) ((xs 0).n 1) q.L1 q.L2
      | false => .bad 2
  | .raise e => retE ih (.error e) dep κ o R xs led n tk L1 L2
  | .rule _ k => ih dep c κ (k ()) o R xs led n tk L1 L2
  | .at _ k => ih dep c κ (k ()) o R xs led n tk L1 L2
  | .point _ k => ih dep c κ (k ()) o R xs led n tk L1 L2
  | .ask k => ih dep c κ (k stg) o R xs led n tk L1 L2
  | .load a _ k => match o % 256 with
    | 0 => match top.get a with
      | some ob => ih dep c κ (k ob) (o / 256) R xs led n tk L1 L2
      | none => .bad 3
    | j + 1 => match nth led j with
      | some p => ih dep c κ (k p.2) (o / 256) R xs led n tk (.a a :: L1) (.a p.1 :: L2)
      | none => .bad 4
  | .loadIfAlive a k => match o % 256 with
    | 0 => match top.get a with
      | some ob => ih dep c κ (k (some ob)) (o / 256) R xs led n tk L1 L2
      | none => .bad 3
    | j + 1 => match nth led j with
      | some p => ih dep c κ (k (some p.2)) (o / 256) R xs led n tk (.a a :: L1) (.a p.1 :: L2)
      | none => .bad 4
  | .alloc ob k => match ob.isFreed with
    | true => .bad 5
    | false => ih dep c κ (k n) o R xs ((n, ob) :: led) (n + 1) tk L1 L2
  | .update a _ f k => match o % 256 with
    | 0 => .bad 6
    | j + 1 => match nth led j with
      | some p => match (f p.2).isFreed with
        | true => .bad 7
        | false => ih dep c κ (k ()) (o / 256) R xs (setL led j (f p.2)) n tk (.a a :: L1) (.a p.1 :: L2)
      | none => .bad 4
  | .fresh k => ih dep c κ (k tk) o R xs led n (tk + 1) L1 L2
  | .stack k => ih dep c κ (k ((c, (xs 0).p) :: (xs 0).b)) o R (shift xs) led n tk L1 L2
  | .handled own k => match own with
    | false => ih dep c κ (k none) o R xs led n tk L1 L2
    | true => .bad 8
  | .call c' hd _ _ k => match hd with
    | some _ => .bad 9
    | none => match o % 256 with
      | 0 => match Nat.ble dep 900 with
        | true => ih (dep + 6) c' (.ret c none k κ) (den' c') (o / 256) R xs led n tk L1 L2
        | false => .bad 10
      | _ + 1 => match R with
        | .nil => .bad 11
        | .cons f rest => match Nat.ble (dep + 6) (f c').lvl with
          | false => .bad 12
          | true => match chk (f c').pre led (o / 256) [] (.f (frOf fr₀ (f c').fr (c.envs ++ framesK κ)) :: .c c' :: L1) (.f (f c').fr :: .c (f c').code :: L2) with
            | none => .bad 13
            | some q => ih dep c κ (k ((f c').res (xs 0))) q.o (rest (xs 0)) (shift xs) ((f c').new (xs 0) ++ puts (List.reverse q.is) ((f c').post (xs 0)) led) ((xs 0).n 0) ((xs 0).n 1) q.L1 q.L2
  | _ => .bad 20
noncomputable def ev (stg : Setting) (top : KT) (lp : Bool) (fr₀ : Option (List Env)) (fuel : Nat) : EvTy :=
  Nat.rec (motive := fun _ => EvTy) (fun _ _ _ _ _ _ _ _ _ _ _ _ => .bad 0) (fun _ ih => evS stg top lp fr₀ ih) fuel
theorem ev_succ (stg : Setting) (top : KT) (lp : Bool) (fr₀ : Option (List Env)) (f : Nat) : ev stg top lp fr₀ (f + 1) = evS stg top lp fr₀ (ev stg top lp fr₀ f) := rfl
/-! What an end owes -/
noncomputable def Out.Eqs : Out → Prop
  | .bad _ => False
  | .done _ _ _ _ L1 L2 => L1 = L2
  | .loop _ _ _ _ L1 L2 => L1 = L2
theorem memB_iff (i : Nat) : ∀ l : List Nat, memB i l = false → i ∉ l
  | [], _ => by simp
  | j :: l, h => by
    have h' : (match Nat.beq i j with | true => true | false => memB i l) = false := h
    rw [BT.beq_eq] at h'
    by_cases e : i = j
    · subst e; simp at h'
    · simp [e] at h'
      exact fun m => by
        rcases List.mem_cons.mp m with m | m
        · exact e m
        · exact memB_iff i l h' m
/-- the objects that a record asks for lie where the oracle says, at places apart -/
noncomputable def At (led : Led) (is : List Nat) (pre : List (Addr × Obj)) : Prop := is.map (fun i => led[i]?) = pre.map some
theorem chk_eqs : ∀ (pre : List (Addr × Obj)) (led : Led) (o : Nat) (is : List Nat) (L1 L2 : List It) (q : Ck), chk pre led o is L1 L2 = some q → q.L1 = q.L2 → is.Nodup →
    L1 = L2 ∧ q.is.Nodup ∧ ∃ js, q.is = js.reverse ++ is ∧ At led js pre
  | [], led, o, is, L1, L2, q, h, e, nd => by
    have : some (⟨o, is, L1, L2⟩ : Ck) = some q := h
    cases this
    exact ⟨e, nd, [], rfl, rfl⟩
  | p :: pre, led, o, is, L1, L2, q, h, e, nd => by
    have h' : (match memB (o % 256) is with
      | true => none
      | false => match nth led (o % 256) with
        | some r => chk pre led (o / 256) (o % 256 :: is) (.a r.1 :: .o r.2 :: L1) (.a p.1 :: .o p.2 :: L2)
        | none => none) = some q := h
    generalize o % 256 = i at h'
    split at h'
    · cases h'
    · rename_i hm
      rw [nth_eq] at h'
      split at h'
      · rename_i r hr
        obtain ⟨e1, e2, js, e3, e4⟩ := chk_eqs pre led _ _ _ _ q h' e (List.nodup_cons.mpr ⟨memB_iff _ _ hm, nd⟩)
        injection e1 with a b
        injection b with b c
        injection a with a
        injection b with b
        refine ⟨c, e2, i :: js, by rw [e3]; simp, ?_⟩
        show led[i]? :: js.map (fun i => led[i]?) = some p :: pre.map some
        have e4' : js.map (fun i => led[i]?) = pre.map some := e4
        rw [e4', hr]
        obtain ⟨r1, r2⟩ := r
        dsimp only at a b
        subst a b
        rfl
      · cases h'
theorem retE_eqs (ih : EvTy) (IH : ∀ dep c κ t o R xs led n tk L1 L2, (ih dep c κ t o R xs led n tk L1 L2).Eqs → L1 = L2) (r : Result) (dep : Nat) (κ : Kont) (o : Nat) (R : Rcs) (xs : Nat → Ov) (led : Led) (n t : Nat) (L1 L2 : List It)
    (h : (retE ih r dep κ o R xs led n t L1 L2).Eqs) : L1 = L2 := by
  cases κ with
  | base => exact h
  | ret => exact IH _ _ _ _ _ _ _ _ _ _ _ _ h
  | gen => cases h
  | genS => cases h
theorem evS_eqs (stg : Setting) (top : KT) (lp : Bool) (fr₀ : Option (List Env)) (ih : EvTy) (IH : ∀ dep c κ t o R xs led n tk L1 L2, (ih dep c κ t o R xs led n tk L1 L2).Eqs → L1 = L2) :
    ∀ dep c κ t o R xs led n tk L1 L2, (evS stg top lp fr₀ ih dep c κ t o R xs led n tk L1 L2).Eqs → L1 = L2 := by
  intro dep c κ t o R xs led n tk L1 L2 h
  cases t with
  | pure fin =>
    cases fin with
    | done f => exact retE_eqs ih IH _ _ _ _ _ _ _ _ _ _ _ h
    | again c' =>
      simp only [evS] at h
      split at h
      · split at h
        · exact IH _ _ _ _ _ _ _ _ _ _ _ _ h
        · split at h
          · exact h
          · cases h
        · split at h
          · cases h
          · split at h
            · cases h
            · split at h
              · cases h
              · rename_i ll hc
                have := retE_eqs ih IH _ _ _ _ _ _ _ _ _ _ _ h
                have := (chk_eqs _ _ _ _ _ _ _ hc this List.nodup_nil).1
                exact (List.cons.inj (List.cons.inj this).2).2
      · cases h
  | raise e => exact retE_eqs ih IH _ _ _ _ _ _ _ _ _ _ _ h
  | rule _ k => exact IH _ _ _ _ _ _ _ _ _ _ _ _ h
  | «at» _ k => exact IH _ _ _ _ _ _ _ _ _ _ _ _ h
  | point _ k => exact IH _ _ _ _ _ _ _ _ _ _ _ _ h
  | ask k => exact IH _ _ _ _ _ _ _ _ _ _ _ _ h
  | load a p k =>
    simp only [evS] at h
    split at h
    · split at h
      · exact IH _ _ _ _ _ _ _ _ _ _ _ _ h
      · cases h
    · split at h
      · have := IH _ _ _ _ _ _ _ _ _ _ _ _ h
        injection this
      · cases h
  | loadIfAlive a k =>
    simp only [evS] at h
    split at h
    · split at h
      · exact IH _ _ _ _ _ _ _ _ _ _ _ _ h
      · cases h
    · split at h
      · have := IH _ _ _ _ _ _ _ _ _ _ _ _ h
        injection this
      · cases h
  | alloc ob k =>
    simp only [evS] at h
    split at h
    · cases h
    · exact IH _ _ _ _ _ _ _ _ _ _ _ _ h
  | update a p f k =>
    simp only [evS] at h
    split at h
    · cases h
    · split at h
      · split at h
        · cases h
        · have := IH _ _ _ _ _ _ _ _ _ _ _ _ h
          injection this
      · cases h
  | fresh k => exact IH _ _ _ _ _ _ _ _ _ _ _ _ h
  | stack k => exact IH _ _ _ _ _ _ _ _ _ _ _ _ h
  | handled own k =>
    cases own with
    | false => exact IH _ _ _ _ _ _ _ _ _ _ _ _ h
    | true => cases h
  | call c' hd g l k =>
    cases hd with
    | some _ => cases h
    | none =>
      simp only [evS] at h
      split at h
      · split at h
        · exact IH _ _ _ _ _ _ _ _ _ _ _ _ h
        · cases h
      · split at h
        · cases h
        · split at h
          · cases h
          · split at h
            · cases h
            · rename_i ll hc
              have := IH _ _ _ _ _ _ _ _ _ _ _ _ h
              have := (chk_eqs _ _ _ _ _ _ _ hc this List.nodup_nil).1
              exact (List.cons.inj (List.cons.inj this).2).2
  | _ => cases h
theorem ev_eqs (stg : Setting) (top : KT) (lp : Bool) (fr₀ : Option (List Env)) : ∀ fuel dep c κ t o R xs led n tk L1 L2, (ev stg top lp fr₀ fuel dep c κ t o R xs led n tk L1 L2).Eqs → L1 = L2
  | 0 => fun _ _ _ _ _ _ _ _ _ _ _ _ h => by cases h
  | f + 1 => evS_eqs stg top lp fr₀ (ev stg top lp fr₀ f) (ev_eqs stg top lp fr₀ f)
end Mine
end
end
section
open PySem PySem.W PySem.W.X PyProof.Rows
noncomputable section
namespace Mine
structure Fine (A : Around) (L : Nat) : Prop where
  hd : A.handled = none
  depth : A.depth ≤ L
  units : A.units ≤ 10 * L
theorem frames_le (c : Code) : c.frames ≤ 3 := by
  unfold Code.frames
  split <;> first | omega | (split <;> omega)
theorem weight_le {c : Code} (h : c.isCaller = false) : c.weight ≤ 5 := by
  have := frames_le c
  unfold Code.weight
  rw [h]
  split <;> split <;> simp <;> omega
theorem cUnits_le (c : Code) : c.cUnits ≤ 10 := by
  have := frames_le c
  unfold Code.cUnits
  split <;> omega
theorem Fine.le {A : Around} {L L' : Nat} (h : Fine A L) (hl : L ≤ L') : Fine A L' := ⟨h.hd, Nat.le_trans h.depth hl, by have := h.units; omega⟩
theorem Fine.under {A : Around} {L : Nat} (h : Fine A L) {c : Code} (hc : c.isCaller = false) : Fine (A.under c) (L + 6) := by
  refine ⟨h.hd, ?_, ?_⟩
  · show A.depth + c.weight ≤ L + 6
    have := h.depth
    have := weight_le hc
    omega
  · show A.units + c.cUnits ≤ 10 * (L + 6)
    have := h.units
    have := cUnits_le c
    omega
theorem mark_none (A : Around) : A.mark none = A := rfl
noncomputable def Tp (top : KT) (h : Heap) : Prop := ∀ a ob, top.get a = some ob → h.get? a = some ob
structure Rep (top : KT) (B : Heap) (S : List Addr) (h : Heap) (led : Led) (n : Nat) : Prop where
  size : h.objs.size = n
  own : ∀ p ∈ led, h.get? p.1 = some p.2
  nd : (led.map (·.1)).Nodup
  out : ∀ p ∈ led, top.get p.1 = none
  tp : Tp top h
  keep : ∀ b ob, B.get? b = some ob → b ∉ S → h.get? b = some ob
  inS : ∀ p ∈ led, p.1 ∈ S ∨ B.objs.size ≤ p.1
  szB : B.objs.size ≤ n
noncomputable def endT (V : XV) (top : KT) : Kont → Result → Shared → Prop
  | .base => V.R₀
  | .ret c _ k κ => postR V.prog V.w (aroundOf V true κ) c (fun fin s' => Tp top s'.heap ∧ postC V.prog V.w (aroundOf V true κ) (endT V top κ) fin s') (postE (endT V top κ)) k
  | .gen .. => fun _ _ => False
  | .genS .. => fun _ _ => False
noncomputable def Mean (V : XV) (top : KT) (c : Code) (κ : Kont) (t : Sem Fin) (s : Shared) : Prop :=
  wpOwn (model V.prog V.w) (aroundOf V true κ) c t (fun fin s' => Tp top s'.heap ∧ postC V.prog V.w (aroundOf V true κ) (endT V top κ) fin s') (postE (endT V top κ)) s
noncomputable def FineK (V : XV) : Kont → Nat → Prop
  | .base, dep => Fine V.A₀ dep
  | .ret c hd k κ, dep => hd = none ∧ 6 ≤ dep ∧ c.isCaller = false ∧ FineK V κ (dep - 6)
  | _, _ => False
theorem FineK.fine {V : XV} : ∀ {κ : Kont} {dep : Nat}, FineK V κ dep → Fine (aroundOf V true κ) dep
  | .base, _, h => h
  | .ret c hd k κ, dep, h => by
    obtain ⟨rfl, h1, h2, h3⟩ := h
    have := (FineK.fine h3).under h2
    rw [Nat.sub_add_cancel h1] at this
    exact this
  | .gen .., _, h => h.elim
  | .genS .., _, h => h.elim
noncomputable def After (r : Rc) (x : Ov) (h h' : Heap) : Prop :=
  h'.objs.size = x.n 0 ∧ h.objs.size ≤ x.n 0 ∧ (r.post x).length = r.pre.length ∧
  (∀ q ∈ r.pre.zip (r.post x), h'.get? q.1.1 = some q.2) ∧
  (∀ b ob, h.get? b = some ob → (∀ q ∈ r.pre, q.1 ≠ b) → h'.get? b = some ob) ∧
  (∀ p ∈ r.new x, h'.get? p.1 = some p.2 ∧ h.objs.size ≤ p.1) ∧ ((r.new x).map (·.1)).Nodup
noncomputable def FrOk (A : Around) (fr : Option (List Env)) : Prop := ∀ l, fr = some l → A.frames = some l
noncomputable def Spec (prog : Program) (w : World) (top : KT) (r : Rc) : Prop :=
  ∀ A : Around, Fine A r.lvl → FrOk A r.fr → ∀ s : Shared, Tp top s.heap → (∀ q ∈ r.pre, s.heap.get? q.1 = some q.2 ∧ top.get q.1 = none) → (r.pre.map (·.1)).Nodup →
    codeAny (model prog w) A r.code (fun res s' => ∃ x : Ov, res = r.res x ∧ s'.gens = s.gens ∧ s'.drawn = s.drawn ∧ s'.os = s.os ∧ s'.toks = x.n 1 ∧ After r x s.heap s'.heap) s
noncomputable def RcsOk (prog : Program) (w : World) (top : KT) : Rcs → Prop
  | .nil => True
  | .cons f rest => (∀ c, Spec prog w top (f c)) ∧ ∀ x, RcsOk prog w top (rest x)
/-! the ledger after a call -/
theorem mem_modify {l : Led} {i : Nat} {o : Obj} {p : Addr × Obj} (h : p ∈ l.modify i (fun p => (p.1, o))) : ∃ j q, l[j]? = some q ∧ p.1 = q.1 ∧ ((j = i ∧ p.2 = o) ∨ (j ≠ i ∧ p = q)) := by
  obtain ⟨j, hj⟩ := List.mem_iff_getElem?.mp h
  rw [List.getElem?_modify] at hj
  cases e : l[j]? with
  | none => rw [e] at hj; cases hj
  | some q =>
    rw [e] at hj
    refine ⟨j, q, e, ?_⟩
    by_cases ji : i = j
    · subst ji
      simp at hj
      subst hj
      exact ⟨rfl, .inl ⟨rfl, rfl⟩⟩
    · simp [ji] at hj
      subst hj
      exact ⟨rfl, .inr ⟨fun z => ji z.symm, rfl⟩⟩
theorem setL_keys (l : Led) (i : Nat) (o : Obj) : (setL l i o).map (·.1) = l.map (·.1) := by
  rw [setL_eq]
  apply List.ext_getElem?
  intro j
  rw [List.getElem?_map, List.getElem?_map, List.getElem?_modify]
  cases l[j]? with
  | none => rfl
  | some q => by_cases h : i = j <;> simp [h]
theorem puts_keys : ∀ (is : List Nat) (os : List Obj) (l : Led), (puts is os l).map (·.1) = l.map (·.1)
  | [], os, l => rfl
  | i :: is, [], l => rfl
  | i :: is, o :: os, l => by
    show (puts is os (setL l i o)).map (·.1) = _
    rw [puts_keys is os, setL_keys]
theorem puts_get {h' : Heap} : ∀ (is : List Nat) (os : List Obj) (pre : List (Addr × Obj)) (l : Led), os.length = pre.length → is.Nodup →
    (is.map (fun i => (l[i]?).map (·.1)) = pre.map (fun q => some q.1)) → (∀ q ∈ pre.zip os, h'.get? q.1.1 = some q.2) →
    (∀ (j : Nat) (p : Addr × Obj), l[j]? = some p → j ∉ is → h'.get? p.1 = some p.2) →
    ∀ (j : Nat) (p : Addr × Obj), (puts is os l)[j]? = some p → h'.get? p.1 = some p.2
  | [], os, pre, l, _, _, _, _, h, j, p, hp => h j p hp (by simp)
  | i :: is, os, [], l, _, _, hq, _, _, _, _, _ => by simp at hq
  | i :: is, [], q :: pre, l, e, _, _, _, _, _, _, _ => by cases e
  | i :: is, o :: os, q :: pre, l, e, nd, hq, hz, h, j, p, hp => by
    have hp' : (puts is os (setL l i o))[j]? = some p := hp
    rw [List.nodup_cons] at nd
    rw [List.map_cons, List.map_cons] at hq
    injection hq with hq1 hq2
    have keys : ∀ k : Nat, ((setL l i o)[k]?).map (·.1) = (l[k]?).map (·.1) := fun k => by
      rw [← List.getElem?_map, ← List.getElem?_map, setL_keys]
    refine puts_get is os pre (setL l i o) (by simpa using e) nd.2 ?_ (fun q' hq' => hz q' (by rw [List.zip_cons_cons]; exact .tail _ hq')) (fun j' p' hj' hn => ?_) j p hp'
    · rw [← hq2]
      exact List.map_congr_left fun k _ => keys k
    · rw [setL_eq, List.getElem?_modify] at hj'
      cases el : l[j']? with
      | none => rw [el] at hj'; cases hj'
      | some r =>
        rw [el] at hj'
        by_cases z : i = j'
        · subst z
          simp at hj'
          subst hj'
          rw [el] at hq1
          simp at hq1
          have := hz (q, o) (by rw [List.zip_cons_cons]; exact .head _)
          dsimp only at this ⊢
          rw [hq1]; exact this
        · simp [z] at hj'
          subst hj'
          exact h j' r el (by
            rw [List.mem_cons]
            rintro (y | y)
            · exact z y.symm
            · exact hn y)
theorem at_mem {led : Led} : ∀ {is : List Nat} {pre : List (Addr × Obj)}, At led is pre → ∀ q ∈ pre, ∃ i ∈ is, led[i]? = some q
  | [], [], _, q, hq => nomatch hq
  | i :: is, p :: pre, h, q, hq => by
    have h' : led[i]? :: is.map (fun i => led[i]?) = some p :: pre.map some := h
    injection h' with h1 h2
    rcases List.mem_cons.mp hq with rfl | hq
    · exact ⟨i, .head _, h1⟩
    · obtain ⟨k, hk, e⟩ := at_mem (is := is) (pre := pre) h2 q hq
      exact ⟨k, .tail _ hk, e⟩
  | [], _ :: _, h, _, _ => by cases h
  | _ :: _, [], h, _, _ => by cases h
theorem at_mem' {led : Led} : ∀ {is : List Nat} {pre : List (Addr × Obj)}, At led is pre → ∀ i ∈ is, ∃ q ∈ pre, led[i]? = some q
  | [], _, _, i, hi => nomatch hi
  | i :: is, p :: pre, h, k, hk => by
    have h' : led[i]? :: is.map (fun i => led[i]?) = some p :: pre.map some := h
    injection h' with h1 h2
    rcases List.mem_cons.mp hk with rfl | hk
    · exact ⟨p, .head _, h1⟩
    · obtain ⟨q, hq, e⟩ := at_mem' (is := is) (pre := pre) h2 k hk
      exact ⟨q, .tail _ hq, e⟩
  | _ :: _, [], h, _, _ => by cases h
theorem nodup_idx {l : Led} (nd : (l.map (·.1)).Nodup) {i j : Nat} {p q : Addr × Obj} (hi : l[i]? = some p) (hj : l[j]? = some q) (e : p.1 = q.1) : i = j := by
  obtain ⟨li, ei⟩ := List.getElem?_eq_some_iff.mp hi
  obtain ⟨lj, ej⟩ := List.getElem?_eq_some_iff.mp hj
  refine (List.getElem_inj (h₀ := by simpa using li) (h₁ := by simpa using lj) nd).mp ?_
  rw [List.getElem_map, List.getElem_map, ei, ej]
  exact e
section
variable {top : KT} {B h : Heap} {S : List Addr} {led : Led} {n : Nat}
theorem Rep.alloc (D : Rep top B S h led n) {o : Obj} (hf : o.isFreed = false) : Rep top B S (h.push o) ((n, o) :: led) (n + 1) := by
  have lt : ∀ p ∈ led, p.1 < n := fun p hp => D.size ▸ Heap.lt_size (D.own p hp)
  refine ⟨by rw [Heap.size_push, D.size], fun p hp => ?_, ?_, fun p hp => ?_, fun a ob e => Heap.get?_push_of_some _ (D.tp a ob e), fun b ob e nb => Heap.get?_push_of_some _ (D.keep b ob e nb), fun p hp => ?_, Nat.le_succ_of_le D.szB⟩
  · rcases List.mem_cons.mp hp with rfl | hp
    · rw [← D.size]; exact Heap.get?_push_size _ hf
    · exact Heap.get?_push_of_some _ (D.own p hp)
  · rw [List.map_cons, List.nodup_cons]
    refine ⟨fun hm => ?_, D.nd⟩
    obtain ⟨p, hp, e⟩ := List.mem_map.mp hm
    exact absurd (lt p hp) (by rw [e]; exact Nat.lt_irrefl _)
  · rcases List.mem_cons.mp hp with rfl | hp
    · cases q : top.get n with
      | none => rfl
      | some ob => exact absurd (Heap.lt_size (D.tp n ob q)) (by rw [D.size]; exact Nat.lt_irrefl _)
    · exact D.out p hp
  · rcases List.mem_cons.mp hp with rfl | hp
    · exact .inr D.szB
    · exact D.inS p hp
theorem Rep.update (D : Rep top B S h led n) {j : Nat} {p : Addr × Obj} {f : Obj → Obj} (hj : led[j]? = some p) (hf : (f p.2).isFreed = false) : Rep top B S (h.update p.1 f) (setL led j (f p.2)) n := by
  have hm := List.mem_of_getElem? hj
  have ho := D.own p hm
  have ge : (h.update p.1 f).get? p.1 = some (f p.2) := Heap.get?_update_self f ho hf
  have gn : ∀ b, b ≠ p.1 → (h.update p.1 f).get? b = h.get? b := fun b hb => Heap.get?_update_other h f (Ne.symm hb)
  refine ⟨by rw [Heap.size_after_update, D.size], fun q hq => ?_, by rw [setL_keys]; exact D.nd, fun q hq => ?_, fun a ob e => ?_, fun b ob e nb => ?_, fun q hq => ?_, D.szB⟩
  · rw [setL_eq] at hq
    obtain ⟨i, r, hr, e1, e2⟩ := mem_modify hq
    rcases e2 with ⟨rfl, e2⟩ | ⟨ne, rfl⟩
    · rw [hj] at hr; cases hr
      rw [e1, e2]; exact ge
    · rw [gn _ (fun z => ne (nodup_idx D.nd hr hj z))]
      exact D.own _ (List.mem_of_getElem? hr)
  · rw [setL_eq] at hq
    obtain ⟨i, r, hr, e1, _⟩ := mem_modify hq
    rw [e1]; exact D.out r (List.mem_of_getElem? hr)
  · rw [gn a (fun z => by rw [z, D.out p hm] at e; cases e)]
    exact D.tp a ob e
  · rw [gn b (fun z => by
      rcases D.inS p hm with q | q
      · exact nb (z ▸ q)
      · have q := Heap.get?_none_of_le q
        rw [← z, e] at q; cases q)]
    exact D.keep b ob e nb
  · rw [setL_eq] at hq
    obtain ⟨i, r, hr, e1, _⟩ := mem_modify hq
    rw [e1]; exact D.inS r (List.mem_of_getElem? hr)
theorem at_nodup (D : Rep top B S h led n) : ∀ {is : List Nat} {pre : List (Addr × Obj)}, At led is pre → is.Nodup → (pre.map (·.1)).Nodup
  | [], [], _, _ => List.nodup_nil
  | i :: is, p :: pre, H, nd => by
    have h' : led[i]? :: is.map (fun i => led[i]?) = some p :: pre.map some := H
    injection h' with h1 h2
    rw [List.nodup_cons] at nd
    rw [List.map_cons, List.nodup_cons]
    refine ⟨fun hm => ?_, at_nodup D (is := is) (pre := pre) h2 nd.2⟩
    obtain ⟨q, hq, e⟩ := List.mem_map.mp hm
    obtain ⟨k, hk, e2⟩ := at_mem (is := is) (pre := pre) h2 q hq
    exact nd.1 (nodup_idx D.nd h1 e2 e.symm ▸ hk)
  | [], _ :: _, H, _ => by cases H
  | _ :: _, [], H, _ => by cases H
theorem Rep.after (D : Rep top B S h led n) {r : Rc} {x : Ov} {h' : Heap} {is : List Nat} (hat : At led is r.pre) (nd : is.Nodup) (F : After r x h h') :
    Rep top B S h' (r.new x ++ puts is (r.post x) led) (x.n 0) := by
  obtain ⟨f1, f2, f3, f4, f5, f6, f7⟩ := F
  have lt : ∀ p ∈ led, p.1 < h.objs.size := fun p hp => Heap.lt_size (D.own p hp)
  have key : ∀ (j : Nat) (p : Addr × Obj), (puts is (r.post x) led)[j]? = some p → h'.get? p.1 = some p.2 := by
    refine puts_get is (r.post x) r.pre led f3 nd ?_ f4 fun j p hp hn => f5 p.1 p.2 (D.own p (List.mem_of_getElem? hp)) fun q hq' e => hn ?_
    · have := congrArg (List.map (fun o : Option (Addr × Obj) => o.map (·.1))) hat
      simpa [List.map_map, Function.comp_def] using this
    · obtain ⟨k, hk, e2⟩ := at_mem hat q hq'
      rw [← nodup_idx D.nd e2 hp e]
      exact hk
  have keys := puts_keys is (r.post x) led
  have tp' : Tp top h' := fun a ob e => f5 a ob (D.tp a ob e) fun q hq' z => by
    obtain ⟨k, hk, e2⟩ := at_mem hat q hq'
    have := D.out q (List.mem_of_getElem? e2)
    rw [z, e] at this; cases this
  refine ⟨f1, fun p hp => ?_, ?_, fun p hp => ?_, tp', fun b ob e nb => ?_, fun p hp => ?_, Nat.le_trans D.szB (by rw [← D.size]; exact f2)⟩
  · rcases List.mem_append.mp hp with hp | hp
    · exact (f6 p hp).1
    · obtain ⟨j, hj⟩ := List.mem_iff_getElem?.mp hp
      exact key j p hj
  · rw [List.map_append, keys]
    refine List.nodup_append.mpr ⟨f7, D.nd, fun a ha b hb e => ?_⟩
    obtain ⟨p, hp, e1⟩ := List.mem_map.mp ha
    obtain ⟨q, hq', e2⟩ := List.mem_map.mp hb
    have h1 := (f6 p hp).2
    have h2 := lt q hq'
    rw [e1, e, ← e2] at h1
    exact absurd h2 (Nat.not_lt.mpr h1)
  · rcases List.mem_append.mp hp with hp | hp
    · cases q : top.get p.1 with
      | none => rfl
      | some ob =>
        have h1 := (f6 p hp).2
        have h2 := Heap.lt_size (D.tp _ ob q)
        exact absurd h2 (Nat.not_lt.mpr h1)
    · have : p.1 ∈ (puts is (r.post x) led).map (·.1) := List.mem_map_of_mem hp
      rw [keys] at this
      obtain ⟨q, hq', e⟩ := List.mem_map.mp this
      rw [← e]; exact D.out q hq'
  · refine f5 b ob (D.keep b ob e nb) fun q hq' z => ?_
    obtain ⟨k, hk, e2⟩ := at_mem hat q hq'
    rcases D.inS q (List.mem_of_getElem? e2) with y | y
    · exact nb (z ▸ y)
    · have y := Heap.get?_none_of_le y
      rw [z, e] at y; cases y
  · rcases List.mem_append.mp hp with hp | hp
    · right
      have h1 := (f6 p hp).2
      have h3 := D.szB
      rw [← D.size] at h3
      exact Nat.le_trans h3 h1
    · have : p.1 ∈ (puts is (r.post x) led).map (·.1) := List.mem_map_of_mem hp
      rw [keys] at this
      obtain ⟨q, hq', e⟩ := List.mem_map.mp this
      rw [← e]; exact D.inS q hq'
end
noncomputable def callT (self : Addr) (fd : FuncData) (args : Args) (compiled : Str) : Sem Fin := do
  let env ← newFunctionEnv fd.scope fd.globals fd.closure (← bindArgs fd args) (compiled ++ ".<locals>.") (some self) fd.code none fd.builtins
  again (match fd.body with
    | .stmts b => .func b env
    | .expr e => .expr e env)
noncomputable def callU (self : Addr) (fd : FuncData) (args : Args) (compiled : Str) : Sem Fin := do
  let env ← newFunctionEnv fd.scope fd.globals fd.closure (← bindArgs fd args) (compiled ++ ".<locals>.") (some self) fd.code none fd.builtins
  enterFrame
  let code : Code := match fd.body with
    | .stmts b => .func b env
    | .expr e => .expr e env
  match fd.scope.isGenerator, fd.scope.isCoroutine with
  | false, false => again code
  | true, false => ret (← newGenerator code fd.name fd.qualname)
  | false, true => ret (← newCoroutine code fd.name fd.qualname)
  | true, true => ret (← newAsyncGenerator code fd.name fd.qualname)
noncomputable def compOf (fd : FuncData) : Sem Str := match fd.code with
    | .none => pure fd.qualname
    | c => do match ← field c 1 with
      | .str q _ => pure q
      | _ => pure fd.qualname
theorem bind_assoc' {α β γ : Type} (m : Sem α) (f : α → Sem β) (g : β → Sem γ) : (m >>= f) >>= g = m >>= fun a => f a >>= g := bind_assoc m f g
theorem callF_T (self : Addr) (fd : FuncData) (args : Args) : callF self fd args = compOf fd >>= callT self fd args := by
  unfold callF compOf
  rw [show callT self fd args = fun compiled => callT self fd args compiled from rfl]
  unfold callT
  generalize fd.code = cd
  cases cd <;> first
    | rfl
    | (dsimp only
       rw [bind_assoc']
       refine congrArg _ (funext fun v => ?_)
       cases v <;> rfl)
theorem callFunction_U (self : Addr) (fd : FuncData) (args : Args) : callFunction self fd args = compOf fd >>= callU self fd args := by
  unfold callFunction compOf
  rw [show callU self fd args = fun compiled => callU self fd args compiled from rfl]
  unfold callU
  generalize fd.code = cd
  cases cd <;> first
    | rfl
    | (dsimp only
       rw [bind_assoc']
       refine congrArg _ (funext fun v => ?_)
       cases v <;> rfl)
section
variable {prog : Program} {w : World} {A : Around} {c : Code}
theorem den_ok {top : KT} {R : Result → Shared → Prop} {E : Value → Shared → Prop} {s : Shared} (NL : ∀ h, Tp top h → h.NoLimit) (hd : A.depth ≤ 906)
    (h : wpOwn (model prog w) A c (den' c) (fun fin s' => Tp top s'.heap ∧ postC prog w A R fin s') E s) : wpOwn (model prog w) A c (denote table c) (postC prog w A R) E s := by
  have plain : wpOwn (model prog w) A c (den c) (fun fin s' => Tp top s'.heap ∧ postC prog w A R fin s') E s → wpOwn (model prog w) A c (denote table c) (postC prog w A R) E s := fun z => by
    rw [den_eq] at z
    exact wpOwn_mono z (fun _ _ q => q.2) (fun _ _ q => q)
  cases c with
  | call f args =>
    cases f with
    | ref a =>
      intro Γ p hc hΓ
      have z := h Γ p hc hΓ
      have z' : Sem.wp (model prog w) Γ (.load a none fun o => match o.data with
        | .func fd => match noGen fd.scope with
          | true => callFZ a fd args
          | false => .unsupported ""
        | _ => den (.call (.ref a) args)) _ _ p s := z
      rw [Sem.wp_load] at z'
      obtain ⟨o, ho, z'⟩ := z'
      obtain ⟨oc, od, dt, osl⟩ := o
      cases dt with
      | func fd =>
        dsimp only at z'
        cases hg : noGen fd.scope with
        | false => rw [hg] at z'; simp at z'
        | true =>
          rw [hg] at z'
          dsimp only at z'
          rw [← callF_eq] at z'
          show Sem.wp (model prog w) Γ (callAny (.ref a) args) _ _ p s
          unfold callAny
          dsimp only
          rw [Sem.wp_bind', Sem.wp_load_of _ _ _ _ _ ho]
          dsimp only
          have hin : Γ.In (A.under (.call (.ref a) args)) := hc ▸ hΓ.in
          have hw : (Code.call (.ref a) args).weight = 0 := rfl
          have tail : ∀ (comp : Str) (p1 : Pos) (s1 : Shared), Sem.wp (model prog w) Γ (callT a fd args comp) (fun fin _ s' => Tp top s'.heap ∧ postC prog w A R fin s') (fun e _ s' => E e s') p1 s1 →
              Sem.wp (model prog w) Γ (callU a fd args comp) (fun fin _ s' => postC prog w A R fin s') (fun e _ s' => E e s') p1 s1 := by
            intro comp p1 s1 z1
            unfold callT at z1
            unfold callU
            rw [Sem.wp_bind'] at z1 ⊢
            refine Sem.wp_mono _ _ _ (fun binds p2 s2 z2 => ?_) (fun _ _ _ q => q) _ _ z1
            rw [Sem.wp_bind'] at z2 ⊢
            refine Sem.wp_mono _ _ _ (fun env p3 s3 z3 => ?_) (fun _ _ _ q => q) _ _ z2
            rw [Sem.wp_cmd_again] at z3
            refine wpAny_bind (wpAny_enterFrame (A := A.under (.call (.ref a) args)) (NL _ z3.1) ?_ ?_) Γ p3 hin
            · show A.depth + (Code.call (.ref a) args).weight < recursionLimit
              rw [hw]
              show A.depth + 0 < 1000
              omega
            · unfold noGen at hg
              intro Γ' p' _
              cases h1 : fd.scope.isGenerator <;> cases h2 : fd.scope.isCoroutine <;> rw [h1, h2] at hg <;> first | (cases hg; done) | skip
              dsimp only
              rw [Sem.wp_cmd_again]
              exact z3.2
          rw [callF_T] at z'
          rw [callFunction_U]
          rw [Sem.wp_bind'] at z' ⊢
          exact Sem.wp_mono _ _ _ (fun comp p1 s1 z1 => tail comp p1 s1 z1) (fun _ _ _ q => q) _ _ z'
      | _ => exact plain (fun Γ' p' hc' hΓ' => by
          have z := h Γ' p' hc' hΓ'
          have z' : Sem.wp (model prog w) Γ' (.load a none fun o => match o.data with
            | .func fd => match noGen fd.scope with
              | true => callFZ a fd args
              | false => .unsupported ""
            | _ => den (.call (.ref a) args)) _ _ p' s := z
          rw [Sem.wp_load] at z'
          obtain ⟨o', ho', z'⟩ := z'
          rw [ho] at ho'
          cases ho'
          exact z') Γ p hc hΓ
    | _ => exact plain h
  | _ => exact plain h
end
end Mine
end
end
section
open PySem PySem.W PySem.W.X PyProof.Rows
noncomputable section
namespace Mine
theorem quiet_of {c : Code} (h : quietZ c = true) : c.quiet = true := by
  cases c with
  | builtin id args =>
    have : PySem.W.ZFast.zw17772548960776305114 (.builtin id args) = true := h
    rw [← PySem.W.ZFast.ze17772548960776305114] at this
    exact this
  | _ => rfl
theorem uns_is (w : String) : (unsupported w : Sem Fin) = .unsupported w := rfl
theorem den_none (id : String) (args : Args) (e : entryFor table id = none) : ∃ w, denote table (.builtin id args) = .unsupported w := by
  unfold denote
  simp only [e]
  exact ⟨_, uns_is _⟩
theorem no_caller : entryFor PySem.W.ZFast.tableZ "claim.caller" = none := by kernel_rfl!
theorem caller_den (args : Args) : ∃ w, den' (.builtin "claim.caller" args) = .unsupported w := by
  have e : den' (.builtin "claim.caller" args) = denote table (.builtin "claim.caller" args) := congrFun den_eq _
  rw [e]
  exact den_none _ _ (by rw [PySem.W.ZFast.tableZ_eq]; exact no_caller)
theorem caller_is {c : Code} (h : c.isCaller = true) : ∃ args, c = .builtin "claim.caller" args := by
  unfold Code.isCaller at h
  split at h
  · exact ⟨_, rfl⟩
  · cases h
section
variable (V : XV) (stg : Setting) (top : KT) (lp : Bool) (fr₀ : Option (List Env)) (B : Heap) (S : List Addr) (g : Array GenState) (d : Drawn) (os : OsState)
noncomputable def Good (out : Out) : Prop := match out with
  | .bad _ => False
  | .done r led n t L1 L2 => L1 = L2 ∧ ∀ h', Rep top B S h' led n → V.R₀ r ⟨h', g, d, t, os⟩
  | .loop c led n t L1 L2 => L1 = L2 ∧ ∀ h', Rep top B S h' led n → codeAny (model V.prog V.w) V.A₀ c V.R₀ ⟨h', g, d, t, os⟩
theorem Good.eqs {out : Out} (h : Good V top B S g d os out) : out.Eqs := by
  cases out with
  | bad => exact h
  | done => exact h.1
  | loop => exact h.1
noncomputable abbrev EvA := (Nat → Ov) → Out
variable (hfr : FrOk V.A₀ fr₀) (hs : stg = ⟨V.prog, V.w.params⟩) (NL : ∀ h, Tp top h → h.NoLimit)
noncomputable def Sound (ih : EvTy) : Prop := ∀ dep c κ t o R led n tk L1 L2 h, (∀ xs, Good V top B S g d os (ih dep c κ t o R xs led n tk L1 L2)) → RcsOk V.prog V.w top R → Rep top B S h led n → FineK V κ dep → dep ≤ 906 → c.isCaller = false →
  Mean V top c κ t ⟨h, g, d, tk, os⟩
noncomputable def NoCaller (ih : EvTy) : Prop := ∀ dep c κ w o R xs led n tk L1 L2, ¬ Good V top B S g d os (ih dep c κ (.unsupported w) o R xs led n tk L1 L2)
variable (ih : EvTy)
theorem codeAny_of_mean {R : Result → Shared → Prop} {A : Around} {c : Code} {s : Shared} (NL : ∀ h, Tp top h → h.NoLimit) (hd : A.depth ≤ 906)
    (h : wpOwn (model V.prog V.w) A c (den' c) (fun fin s' => Tp top s'.heap ∧ postC V.prog V.w A R fin s') (postE R) s) : codeAny (model V.prog V.w) A c R s :=
  y_code _ _ _ _ _ _ (den_ok NL hd h)
theorem not_caller {ih : EvTy} (nc : NoCaller V top B S g d os ih) {dep : Nat} {c c' : Code} {κ : Kont} {o : Nat} {R : Rcs} {xs : Nat → Ov} {led : Led} {n tk : Nat} {L1 L2 : List It}
    (h : Good V top B S g d os (ih dep c κ (den' c') o R xs led n tk L1 L2)) : c'.isCaller = false := by
  cases q : c'.isCaller with
  | false => rfl
  | true =>
    obtain ⟨args, rfl⟩ := caller_is q
    obtain ⟨w, e⟩ := caller_den args
    rw [e] at h
    exact absurd h (nc _ _ _ _ _ _ _ _ _ _ _ _)
noncomputable def xs0 : Nat → Ov := fun _ => ⟨fun _ => 0, fun _ _ => 0, fun _ => default, default, []⟩
theorem ret_end {ih : EvTy} (IH : Sound V top B S g d os ih) {r : Result} {κ : Kont} {dep o : Nat} {R : Rcs} {led : Led} {n tk : Nat} {L1 L2 : List It} {h : Heap}
    (H : ∀ xs, Good V top B S g d os (retE ih r dep κ o R xs led n tk L1 L2)) (hR : RcsOk V.prog V.w top R) (D : Rep top B S h led n) (F : FineK V κ dep) (hd : dep ≤ 906) : endT V top κ r ⟨h, g, d, tk, os⟩ := by
  cases κ with
  | base => exact (H xs0).2 h D
  | ret c₁ hd k κ =>
    obtain ⟨rfl, h1, h2, h3⟩ := F
    exact IH _ _ _ _ _ _ _ _ _ _ _ h H hR D h3 (by omega) h2
  | gen => exact (H xs0).elim
  | genS => exact (H xs0).elim
theorem ret_sound {ih : EvTy} (IH : Sound V top B S g d os ih) {r : Result} {c : Code} {κ : Kont} {t : Sem Fin} (ht : t = leafOf r) {dep o : Nat} {R : Rcs} {led : Led} {n tk : Nat} {L1 L2 : List It} {h : Heap}
    (H : ∀ xs, Good V top B S g d os (retE ih r dep κ o R xs led n tk L1 L2)) (hR : RcsOk V.prog V.w top R) (D : Rep top B S h led n) (F : FineK V κ dep) (hd : dep ≤ 906) : Mean V top c κ t ⟨h, g, d, tk, os⟩ := by
  have key := ret_end V top B S g d os IH H hR D F hd
  subst ht
  cases r with
  | ok f => exact y_pure _ _ _ _ _ _ _ _ _ ⟨D.tp, key⟩
  | error e => exact y_raise _ _ _ _ _ _ _ _ _ key
/-- a record met -/
theorem rec_met {f : Code → Rc} {c' : Code} {A : Around} {led : Led} {h : Heap} {n tk o : Nat} {L1 L2 : List It} {q : Ck} {R₁ : Result → Shared → Prop} (fu : Fine A (f c').lvl) {fa : Option (List Env)} (ffr : fa = (f c').fr → FrOk A (f c').fr) (sp : ∀ c, Spec V.prog V.w top (f c)) (D : Rep top B S h led n)
    (hck : chk (f c').pre led o [] (.f fa :: .c c' :: L1) (.f (f c').fr :: .c (f c').code :: L2) = some q) (e1 : q.L1 = q.L2)
    (H : ∀ (x : Ov) h' , Rep top B S h' ((f c').new x ++ puts (List.reverse q.is) ((f c').post x) led) (x.n 0) → R₁ ((f c').res x) ⟨h', g, d, x.n 1, os⟩) : codeAny (model V.prog V.w) A c' R₁ ⟨h, g, d, tk, os⟩ := by
  obtain ⟨e2, e3, js, e4, e5⟩ := chk_eqs _ _ _ _ _ _ _ hck e1 List.nodup_nil
  rw [List.append_nil] at e4
  have ejs : List.reverse q.is = js := by rw [e4, List.reverse_reverse]
  have ndj : js.Nodup := by rw [← ejs]; exact (List.reverse_perm _).nodup_iff.mpr e3
  have ec : c' = (f c').code := by
    injection e2 with _ e2
    injection e2 with e2
    injection e2
  have ef : fa = (f c').fr := by
    injection e2 with e2
    injection e2
  have z : codeAny (model V.prog V.w) A (f c').code R₁ ⟨h, g, d, tk, os⟩ := by
    refine codeAny_mono (sp c' _ fu (ffr ef) ⟨h, g, d, tk, os⟩ D.tp (fun q hq => by
      obtain ⟨k, hk, e6⟩ := at_mem e5 q hq
      exact ⟨D.own _ (List.mem_of_getElem? e6), D.out _ (List.mem_of_getElem? e6)⟩) (at_nodup D e5 ndj)) fun res s' hx => ?_
    obtain ⟨x, rfl, hg, hdr, hos, htk, haf⟩ := hx
    obtain ⟨h', g', d', tk', os'⟩ := s'
    dsimp only at hg hdr hos htk haf
    subst hg hdr hos htk
    refine H x h' ?_
    rw [ejs]
    exact D.after e5 ndj haf
  rw [← ec] at z
  exact z
noncomputable def consX (x : Ov) (xs : Nat → Ov) : Nat → Ov := fun i => match i with | 0 => x | i + 1 => xs i
theorem good_eq {dep : Nat} {c : Code} {κ : Kont} {t : Sem Fin} {o : Nat} {R : Rcs} {xs : Nat → Ov} {led : Led} {n tk : Nat} {L1 L2 : List It} (E : ∀ dep c κ t o R xs led n tk L1 L2, (ih dep c κ t o R xs led n tk L1 L2).Eqs → L1 = L2)
    (h : Good V top B S g d os (ih dep c κ t o R xs led n tk L1 L2)) : L1 = L2 := E _ _ _ _ _ _ _ _ _ _ _ _ (Good.eqs _ _ _ _ _ _ _ h)
theorem framesK_ok {V : XV} {fr₀ : List Env} : ∀ {κ : Kont} {dep : Nat}, FineK V κ dep → V.A₀.frames = some fr₀ → (aroundOf V true κ).frames = some (framesK κ ++ fr₀)
  | .base, _, _, h => h
  | .ret c hd k κ, dep, F, h => by
    obtain ⟨rfl, h1, h2, h3⟩ := F
    show pushEnvs c.envs (aroundOf V true κ).frames = _
    rw [pushEnvs_eq, framesK_ok h3 h]
    show some (c.envs ++ (framesK κ ++ fr₀)) = some ((c.envs ++ framesK κ) ++ fr₀)
    rw [List.append_assoc]
  | .gen .., _, F, _ => F.elim
  | .genS .., _, F, _ => F.elim
theorem frOf_some {fr₀ want : Option (List Env)} {own l : List Env} (h : frOf fr₀ want own = want) (e : want = some l) : ∃ b, fr₀ = some b ∧ l = own ++ b := by
  subst e
  cases fr₀ with
  | none => cases h
  | some b =>
    have h' : some (own ++ b) = some l := h
    cases h'
    exact ⟨b, rfl, rfl⟩
theorem frOf_ok {V : XV} {fr₀ want : Option (List Env)} (hfr : FrOk V.A₀ fr₀) {κ : Kont} {dep : Nat} (F : FineK V κ dep) (h : frOf fr₀ want (framesK κ) = want) : FrOk (aroundOf V true κ) want := fun l e => by
  obtain ⟨b, rfl, rfl⟩ := frOf_some h e
  exact framesK_ok F (hfr _ rfl)
theorem frOf_okU {V : XV} {fr₀ want : Option (List Env)} (hfr : FrOk V.A₀ fr₀) {κ : Kont} {c : Code} {dep : Nat} (F : FineK V κ dep) (h : frOf fr₀ want (c.envs ++ framesK κ) = want) : FrOk (((aroundOf V true κ).under c).mark none) want := fun l e => by
  obtain ⟨b, rfl, rfl⟩ := frOf_some h e
  show pushEnvs c.envs (aroundOf V true κ).frames = _
  rw [pushEnvs_eq, framesK_ok F (hfr _ rfl)]
  show some (c.envs ++ (framesK κ ++ b)) = some ((c.envs ++ framesK κ) ++ b)
  rw [List.append_assoc]
include hs NL hfr in
theorem step_sound (E : ∀ dep c κ t o R xs led n tk L1 L2, (ih dep c κ t o R xs led n tk L1 L2).Eqs → L1 = L2) (nc : NoCaller V top B S g d os ih) (IH : Sound V top B S g d os ih) : Sound V top B S g d os (evS stg top lp fr₀ ih) := by
  intro dep c κ t o R led n tk L1 L2 h H hR D F hdep hc
  have ff := F.fine
  have skim1 : ∀ {t' : Sem Fin}, Mean V top c κ t' ⟨h, g, d, tk, os⟩ → ∀ {t : Sem Fin}, skim ⟨V.prog, V.w.params⟩ 1 t = t' → Mean V top c κ t ⟨h, g, d, tk, os⟩ := fun z _ e => by
    subst e
    exact y_skim _ _ _ _ _ _ _ _ _ 1 z
  have own : ∀ {j : Nat} {p : Addr × Obj}, nth led j = some p → h.get? p.1 = some p.2 := fun e => D.own _ (List.mem_of_getElem? (by rw [← nth_eq]; exact e))
  cases t with
  | pure fin =>
    cases fin with
    | done f => exact ret_sound V top B S g d os IH rfl H hR D F hdep
    | again c' =>
      cases q : quietZ c' with
      | false => have z := H xs0; simp only [evS, q] at z; cases z
      | true =>
        have go : ∀ o', (∀ xs, Good V top B S g d os (ih dep c' κ (den' c') o' R xs led n tk L1 L2)) → Mean V top c κ (.pure (.again c')) ⟨h, g, d, tk, os⟩ := fun o' H' => by
          have z := IH _ _ _ _ _ _ _ _ _ _ _ h H' hR D F hdep (not_caller V top B S g d os nc (H' xs0))
          exact y_pure _ _ _ _ _ _ _ _ _ ⟨D.tp, quiet_of q, codeAny_of_mean V top NL (Nat.le_trans ff.depth hdep) z⟩
        simp only [evS, q] at H
        split at H
        · exact go _ H
        · split at H
          · exact y_pure _ _ _ _ _ _ _ _ _ ⟨D.tp, quiet_of q, (H xs0).2 h D⟩
          · exact (H xs0).elim
        · split at H
          · exact (H xs0).elim
          · rename_i f rest
            split at H
            · exact (H xs0).elim
            · rename_i hb
              split at H
              · exact (H xs0).elim
              · rename_i ll hck
                have e1 : ll.L1 = ll.L2 := retE_eqs ih E _ _ _ _ _ _ _ _ _ _ _ (Good.eqs _ _ _ _ _ _ _ (H xs0))
                refine y_pure _ _ _ _ _ _ _ _ _ ⟨D.tp, quiet_of q, rec_met V top B S g d os (ff.le (Nat.le_of_ble_eq_true hb)) (frOf_ok hfr F) hR.1 D hck e1 fun x h' D' => ?_⟩
                have H' : ∀ xs, Good V top B S g d os (retE ih ((f c').res x) dep κ ll.o (rest x) xs ((f c').new x ++ puts (List.reverse ll.is) ((f c').post x) led) (x.n 0) (x.n 1) ll.L1 ll.L2) := fun xs => H (consX x xs)
                exact ret_end V top B S g d os IH H' (hR.2 x) D' F hdep
  | raise e => exact ret_sound V top B S g d os IH rfl H hR D F hdep
  | rule tag k => exact skim1 (IH _ _ _ _ _ _ _ _ _ _ _ h H hR D F hdep hc) rfl
  | «at» q k => exact skim1 (IH _ _ _ _ _ _ _ _ _ _ _ h H hR D F hdep hc) rfl
  | point l k => exact skim1 (IH _ _ _ _ _ _ _ _ _ _ _ h H hR D F hdep hc) rfl
  | ask k =>
    have H' : ∀ xs, Good V top B S g d os (ih dep c κ (k stg) o R xs led n tk L1 L2) := H
    rw [hs] at H'
    exact skim1 (IH _ _ _ _ _ _ _ _ _ _ _ h H' hR D F hdep hc) rfl
  | load a p k =>
    simp only [evS] at H
    split at H
    · split at H
      · rename_i ob e
        exact y_load _ _ _ _ _ _ _ _ _ _ _ _ _ _ _ _ (D.tp a ob e) (IH _ _ _ _ _ _ _ _ _ _ _ h H hR D F hdep hc)
      · exact (H xs0).elim
    · split at H
      · rename_i j pr e
        have ea : a = pr.1 := by
          have := good_eq V top B S g d os ih E (H xs0)
          injection this with this
          injection this
        subst ea
        exact y_load _ _ _ _ _ _ _ _ _ _ _ _ _ _ _ _ (own e) (IH _ _ _ _ _ _ _ _ _ _ _ h H hR D F hdep hc)
      · exact (H xs0).elim
  | loadIfAlive a k =>
    simp only [evS] at H
    split at H
    · split at H
      · rename_i ob e
        exact y_alive _ _ _ _ _ _ _ _ _ _ _ _ _ _ _ (D.tp a ob e) (IH _ _ _ _ _ _ _ _ _ _ _ h H hR D F hdep hc)
      · exact (H xs0).elim
    · split at H
      · rename_i j pr e
        have ea : a = pr.1 := by
          have := good_eq V top B S g d os ih E (H xs0)
          injection this with this
          injection this
        subst ea
        exact y_alive _ _ _ _ _ _ _ _ _ _ _ _ _ _ _ (own e) (IH _ _ _ _ _ _ _ _ _ _ _ h H hR D F hdep hc)
      · exact (H xs0).elim
  | alloc ob k =>
    simp only [evS] at H
    split at H
    · exact (H xs0).elim
    · rename_i hf
      have z := IH _ _ _ _ _ _ _ _ _ _ _ (h.push ob) H hR (D.alloc hf) F hdep hc
      have z' : Mean V top c κ (k h.objs.size) ⟨h.push ob, g, d, tk, os⟩ := by rw [D.size]; exact z
      exact wpOwn_bind (m := alloc ob) (f := k) (wpOwn_of_wpAny (wpAny_alloc z'))
  | update a p f k =>
    simp only [evS] at H
    split at H
    · exact (H xs0).elim
    · split at H
      · rename_i j pr e
        split at H
        · exact (H xs0).elim
        · rename_i hf
          have ea : a = pr.1 := by
            have := good_eq V top B S g d os ih E (H xs0)
            injection this with this
            injection this
          subst ea
          have z := IH _ _ _ _ _ _ _ _ _ _ _ (h.update pr.1 f) H hR (D.update (by rw [← nth_eq]; exact e) hf) F hdep hc
          exact wpOwn_bind (m := updatePart pr.1 p f) (f := k) (wpOwn_of_wpAny (wpAny_updatePart (own e) z))
      · exact (H xs0).elim
  | fresh k => exact y_fresh _ _ _ _ _ _ _ _ _ _ _ _ _ (IH _ _ _ _ _ _ _ _ _ _ _ h H hR D F hdep hc)
  | stack k =>
    refine y_stack _ _ _ _ _ _ _ _ _ fun p below l => ?_
    have H' : ∀ xs, Good V top B S g d os (ih dep c κ (k ((c, p) :: below)) o R xs led n tk L1 L2) := fun xs => H (consX ⟨fun _ => 0, fun _ _ => 0, fun _ => default, p, below⟩ xs)
    exact IH _ _ _ _ _ _ _ _ _ _ _ h H' hR D F hdep hc
  | handled ow k =>
    cases ow with
    | true => exact (H xs0).elim
    | false =>
      refine y_handled _ _ _ _ _ _ _ _ _ ?_
      rw [ff.hd]
      exact IH _ _ _ _ _ _ _ _ _ _ _ h H hR D F hdep hc
  | call c' hd gd l k =>
    cases hd with
    | some _ => exact (H xs0).elim
    | none =>
      simp only [evS] at H
      split at H
      · split at H
        · rename_i hb
          have hb' : dep ≤ 900 := Nat.le_of_ble_eq_true hb
          have F' : FineK V (.ret c none k κ) (dep + 6) := ⟨rfl, by omega, hc, by rw [Nat.add_sub_cancel]; exact F⟩
          have z := IH _ _ _ _ _ _ _ _ _ _ _ h H hR D F' (by omega) (not_caller V top B S g d os nc (H xs0))
          refine y_call _ _ _ _ _ _ _ _ _ _ _ _ _ (by intro e; cases e) ?_
          exact codeAny_of_mean V top NL (Nat.le_trans F'.fine.depth (by omega)) z
        · exact (H xs0).elim
      · split at H
        · exact (H xs0).elim
        · rename_i f rest
          split at H
          · exact (H xs0).elim
          · rename_i hb
            have hb' : dep + 6 ≤ (f c').lvl := Nat.le_of_ble_eq_true hb
            split at H
            · exact (H xs0).elim
            · rename_i ll hck
              have e1 := good_eq V top B S g d os ih E (H xs0)
              refine y_call _ _ _ _ _ _ _ _ _ _ _ _ _ (by intro e; cases e) ?_
              have fu : Fine (((aroundOf V true κ).under c).mark none) (f c').lvl := (ff.under hc).le hb'
              exact rec_met V top B S g d os fu (frOf_okU hfr F) hR.1 D hck e1 fun x h' D' => IH _ _ _ _ _ _ _ _ _ _ _ h' (fun xs => H (consX x xs)) (hR.2 x) D' F hdep hc
  | _ => exact (H xs0).elim
include hs NL hfr in
theorem ev_sound : ∀ fuel, Sound V top B S g d os (ev stg top lp fr₀ fuel) ∧ NoCaller V top B S g d os (ev stg top lp fr₀ fuel)
  | 0 => ⟨fun _ _ _ _ _ _ _ _ _ _ _ _ H => (H xs0).elim, fun _ _ _ _ _ _ _ _ _ _ _ _ H => H⟩
  | f + 1 => ⟨step_sound V stg top lp fr₀ B S g d os hfr hs NL (ev stg top lp fr₀ f) (ev_eqs stg top lp fr₀ f) (ev_sound f).2 (ev_sound f).1, fun _ _ _ _ _ _ _ _ _ _ _ _ H => H⟩
end
end Mine
end
end
section
open PySem PySem.W PySem.W.X PyProof.Rows
noncomputable section
namespace Mine
noncomputable abbrev Ans := Option (Result × List (Option (Addr × Obj)) × List It)
noncomputable def sel (led : Led) (is : List Nat) : List (Option (Addr × Obj)) := List.rec (motive := fun _ => List (Option (Addr × Obj))) [] (fun i _ ih => nth led i :: ih) is
theorem sel_eq (led : Led) : ∀ is, sel led is = is.map (nth led)
  | [] => rfl
  | i :: is => by show nth led i :: sel led is = _; rw [sel_eq led is]; rfl
noncomputable def somes (l : Led) : List (Option (Addr × Obj)) := l.map some
noncomputable def lhs (out : Out) (is : List Nat) : Ans := match out with
  | .done r led _ _ L1 _ => some (r, sel led is, L1)
  | _ => none
noncomputable def rhs (out : Out) (g : Nat → Nat → Led → Result × Led) : Ans := match out with
  | .done _ led n t _ L2 => some ((g n t led).1, somes (g n t led).2, L2)
  | _ => some (.ok .next, [], [])
noncomputable def led0 (r : Rc) : Led := r.pre
noncomputable def want (r : Rc) (x : Ov) : Result × Led := (r.res x, (r.pre.map (·.1)).zip (r.post x) ++ r.new x)
structure Top (top : KT) (prog : Program) (w : World) : Prop where
  NL : ∀ h, Tp top h → h.NoLimit
  sz : ∀ h, Tp top h → 829 ≤ h.objs.size
noncomputable abbrev WX := Nat → Nat → (Nat → Ov) → Nat → Nat → Led → Ov
noncomputable def SP (r : Rc) (s : Shared) (res : Result) (s' : Shared) : Prop := ∃ x : Ov, res = r.res x ∧ s'.gens = s.gens ∧ s'.drawn = s.drawn ∧ s'.os = s.os ∧ s'.toks = x.n 1 ∧ After r x s.heap s'.heap
/-- a tree's contract -/
noncomputable def SpecT (prog : Program) (w : World) (top : KT) (r : Rc) (t : Sem Fin) : Prop :=
  ∀ A : Around, Fine A r.lvl → FrOk A r.fr → ∀ s : Shared, Tp top s.heap → (∀ q ∈ r.pre, s.heap.get? q.1 = some q.2 ∧ top.get q.1 = none) → (r.pre.map (·.1)).Nodup →
    wpOwn (model prog w) A r.code t (fun fin s' => Tp top s'.heap ∧ postC prog w A (SP r s) fin s') (postE (SP r s)) s
theorem specT_of {prog : Program} {w : World} {top : KT} (T : Top top prog w) (stg : Setting) (hs : stg = ⟨prog, w.params⟩) (r : Rc) (tr : Sem Fin) (fuel o : Nat) (R : Nat → Nat → Rcs) (hR : ∀ m tk, RcsOk prog w top (R m tk)) (is : List Nat) (X : WX)
    (hl : r.lvl ≤ 900) (hc : r.code.isCaller = false) (h0 : ∀ m tk xs n t led, (X m tk xs n t led).n 0 = n ∧ (X m tk xs n t led).n 1 = t) (hlen : ∀ x, (r.post x).length = r.pre.length) (nd' : is.Nodup)
    (H : ∀ m tk xs, lhs (ev stg top false r.fr fuel r.lvl r.code .base tr o (R m tk) xs (led0 r) (m + 829) tk [] []) is = rhs (ev stg top false r.fr fuel r.lvl r.code .base tr o (R m tk) xs (led0 r) (m + 829) tk [] []) (fun n t led => want r (X m tk xs n t led))) :
    SpecT prog w top r tr := by
  intro A fA ffr s tp hpre nd
  obtain ⟨m, hm⟩ : ∃ m, s.heap.objs.size = m + 829 := ⟨s.heap.objs.size - 829, by have := T.sz _ tp; omega⟩
  let V : XV := { prog, w, h₀ := s.heap, n₁ := 0, kt := .nil, tabs := [], A₀ := A, R₀ := SP r s, d := s.drawn, t₀ := 0, os := s.os }
  have D : Rep top s.heap (r.pre.map (·.1)) s.heap (led0 r) (m + 829) := by
    refine ⟨hm, fun p hp => ?_, ?_, fun p hp => ?_, tp, fun b ob e _ => e, fun p hp => ?_, by rw [hm]; exact Nat.le_refl _⟩
    · exact (hpre p hp).1
    · exact nd
    · exact (hpre p hp).2
    · exact .inl (List.mem_map_of_mem hp)
  have G : ∀ xs, Good V top s.heap (r.pre.map (·.1)) s.gens s.drawn s.os (ev stg top false r.fr fuel r.lvl r.code .base tr o (R m s.toks) xs (led0 r) (m + 829) s.toks [] []) := by
    intro xs
    have z := H m s.toks xs
    generalize ev stg top false r.fr fuel r.lvl r.code .base tr o (R m s.toks) xs (led0 r) (m + 829) s.toks [] [] = out at z
    cases out with
    | bad => cases z
    | loop => cases z
    | done res led n t L1 L2 =>
      obtain ⟨e0, e1⟩ := h0 m s.toks xs n t led
      have ew : want r (X m s.toks xs n t led) = (r.res (X m s.toks xs n t led), (r.pre.map (·.1)).zip (r.post (X m s.toks xs n t led)) ++ r.new (X m s.toks xs n t led)) := rfl
      have hlen' := hlen (X m s.toks xs n t led)
      simp only [lhs, rhs, Option.some.injEq, Prod.mk.injEq] at z
      generalize X m s.toks xs n t led = x at z e0 e1 ew hlen'
      obtain ⟨z1, z2, z3⟩ := z
      refine ⟨z3, fun h' D' => ⟨x, z1, rfl, rfl, rfl, e1.symm, ?_⟩⟩
      have mem : ∀ p ∈ (want r x).2, h'.get? p.1 = some p.2 := fun p hp => by
        have : some p ∈ somes (want r x).2 := List.mem_map_of_mem hp
        rw [← z2, sel_eq] at this
        obtain ⟨i, _, hi⟩ := List.mem_map.mp this
        rw [nth_eq] at hi
        exact D'.own p (List.mem_of_getElem? hi)
      have inl : ∀ p ∈ (want r x).2, p ∈ led := fun p hp => by
        have : some p ∈ somes (want r x).2 := List.mem_map_of_mem hp
        rw [← z2, sel_eq] at this
        obtain ⟨i, _, hi⟩ := List.mem_map.mp this
        rw [nth_eq] at hi
        exact List.mem_of_getElem? hi
      have hat : At led is (want r x).2 := by
        rw [sel_eq] at z2
        show is.map (fun i => led[i]?) = _
        rw [show (fun i => led[i]?) = nth led from funext fun i => (nth_eq led i).symm]
        exact z2
      have ndw := at_nodup D' hat nd'
      rw [ew] at mem inl ndw
      dsimp only at mem inl ndw
      have keys : ((r.pre.map (·.1)).zip (r.post x)).map (·.1) = r.pre.map (·.1) := List.map_fst_zip (by rw [List.length_map, hlen']; exact Nat.le_refl _)
      rw [List.map_append, keys] at ndw
      have nda := List.nodup_append.mp ndw
      refine ⟨by rw [e0]; exact D'.size, by rw [e0]; exact D'.szB, hlen', fun q hq => ?_, fun b ob e nb => D'.keep b ob e fun hb => ?_, fun p hp => ⟨mem p (List.mem_append_right _ hp), ?_⟩, nda.2.1⟩
      · have : (q.1.1, q.2) ∈ (r.pre.map (·.1)).zip (r.post x) := by
          rw [List.zip_map_left]
          exact List.mem_map.mpr ⟨q, hq, rfl⟩
        exact mem _ (List.mem_append_left _ this)
      · obtain ⟨q, hq, e⟩ := List.mem_map.mp hb
        exact nb q hq e
      · rcases D'.inS p (inl p (List.mem_append_right _ hp)) with q | q
        · exact absurd rfl (nda.2.2 p.1 q p.1 (List.mem_map_of_mem hp))
        · exact q
  exact (ev_sound V stg top false r.fr s.heap (r.pre.map (·.1)) s.gens s.drawn s.os ffr hs T.NL fuel).1 r.lvl r.code .base tr o (R m s.toks) (led0 r) (m + 829) s.toks [] [] s.heap G (hR m s.toks) D fA (by omega) hc
theorem spec_ofT {prog : Program} {w : World} {top : KT} (T : Top top prog w) (r : Rc) (hl : r.lvl ≤ 900) (H : SpecT prog w top r (den' r.code)) : Spec prog w top r := fun A fA ffr s tp hpre nd =>
  y_code _ _ _ _ _ _ (den_ok T.NL (Nat.le_trans fA.depth (by omega)) (H A fA ffr s tp hpre nd))
theorem spec_of {prog : Program} {w : World} {top : KT} (T : Top top prog w) (stg : Setting) (hs : stg = ⟨prog, w.params⟩) (r : Rc) (fuel o : Nat) (R : Nat → Nat → Rcs) (hR : ∀ m tk, RcsOk prog w top (R m tk)) (is : List Nat) (X : WX)
    (hl : r.lvl ≤ 900) (hc : r.code.isCaller = false) (h0 : ∀ m tk xs n t led, (X m tk xs n t led).n 0 = n ∧ (X m tk xs n t led).n 1 = t) (hlen : ∀ x, (r.post x).length = r.pre.length) (nd' : is.Nodup)
    (H : ∀ m tk xs, lhs (ev stg top false r.fr fuel r.lvl r.code .base (den' r.code) o (R m tk) xs (led0 r) (m + 829) tk [] []) is = rhs (ev stg top false r.fr fuel r.lvl r.code .base (den' r.code) o (R m tk) xs (led0 r) (m + 829) tk [] []) (fun n t led => want r (X m tk xs n t led))) :
    Spec prog w top r := spec_ofT T r hl (specT_of T stg hs r _ fuel o R hR is X hl hc h0 hlen nd' H)
end Mine
end
section
open PySem PySem.W PySem.W.X PyProof.Rows PySem.Calls
noncomputable section
namespace Mine
noncomputable def xx (n t a : Nat) : Ov := ⟨fun i => match i with | 0 => n | 1 => t | _ => a, fun _ _ => 0, fun _ => default, default, []⟩
section
variable {prog : Program} {w : World} {A : Around} {R : Result → Shared → Prop} {s : Shared}
theorem codeAny_fn {id : String} {b : Builtin} {args : List Value} (hk : builtinKind id = none) (hp : plainId id = true) (hb : entryFor table id = some b) (ha : argsOk id ⟨args, []⟩)
    (hc : wpAny (model prog w) A.in1 (b ⟨args, []⟩) (fun fin s' => ∃ v, fin = .done (.ret v) ∧ R (.ok (.ret v)) s') (fun e s' => R (.error e) s') s) : codeAny (model prog w) A (.call (.builtin id) ⟨args, []⟩) R s := by
  refine codeAny_call_builtin hp hb ?_
  have hfin := wpAny_mono hc (Q' := fun fin s' => match fin with
      | .done f => R (.ok f) s'
      | .again c' => c'.quiet = true ∧ codeAny (model prog w) A c' R s') (fun fin s' h' => by obtain ⟨v, rfl, hv⟩ := h'; exact hv) fun _ _ h' => h'
  simp only [checkBuiltinCall, hk]
  cases hsig : Manifest.signature? id with
  | none => exact wpAny_pure hfin
  | some sig =>
    simp only [argsOk, hsig] at ha
    have h2 : Bind.checkArgs id sig ⟨args, []⟩ = pure () := ha
    show wpAny _ A.in1 (Bind.checkArgs id sig ⟨args, []⟩) _ _ s
    rw [h2]; exact wpAny_pure hfin
theorem codeAny_slot {T id : String} {name : Str} {b : Builtin} {self : Value} {rest : List Value} (h : Slot T name id) (hT : s.TypeIs self T) (hb : entryFor table id = some b) (ha : argsOk id ⟨self :: rest, []⟩)
    (hc : wpAny (model prog w) A.in1 (b ⟨self :: rest, []⟩) (fun fin s' => ∃ v, fin = .done (.ret v) ∧ R (.ok (.ret v)) s') (fun e s' => R (.error e) s') s) : codeAny (model prog w) A (.call (.builtin id) ⟨self :: rest, []⟩) R s := by
  refine codeAny_call_builtin h.plain hb (h.check _ _ _ _ _ _ _ _ hT ha (wpAny_mono hc (fun fin s' h' => ?_) fun _ _ h' => h'))
  obtain ⟨v, rfl, hv⟩ := h'; exact hv
theorem codeAny_slotM {T id : String} {name : Str} {b : Builtin} {self : Value} {rest : List Value} (h : Slot T name id) (hT : s.TypeIs self T) (hb : entryFor table id = some b) (ha : argsOk id ⟨self :: rest, []⟩)
    (hc : wpAny (model prog w) A.in1 (b ⟨self :: rest, []⟩) (fun fin s' => match fin with | .done f => R (.ok f) s' | .again c' => c'.quiet = true ∧ codeAny (model prog w) A c' R s') (fun e s' => R (.error e) s') s) : codeAny (model prog w) A (.call (.builtin id) ⟨self :: rest, []⟩) R s :=
  codeAny_call_builtin h.plain hb (h.check _ _ _ _ _ _ _ _ hT ha hc)
end
theorem spec_toks {prog : Program} {w : World} {top : KT} (r : Rc) (hp : ∀ x, r.post x = r.pre.map (·.2)) (hn : ∀ x, r.new x = []) (k : Nat) (val : Nat → Result) (hr : ∀ x, r.res x = val (x.n 2))
    (h : ∀ A s, Fine A r.lvl → (∀ q ∈ r.pre, s.heap.get? q.1 = some q.2) → ∀ R : Result → Shared → Prop, R (val s.toks) { s with toks := s.toks + k } → codeAny (model prog w) A r.code R s) : Spec prog w top r := by
  intro A fA ffr s tp hpre nd
  refine h A s fA (fun q hq => (hpre q hq).1) _ ⟨xx s.heap.objs.size (s.toks + k) s.toks, (hr (xx s.heap.objs.size (s.toks + k) s.toks)).symm, rfl, rfl, rfl, rfl, rfl, Nat.le_refl _, by rw [hp, List.length_map], fun q hq => ?_, fun b ob e _ => e, fun p hm => by (rw [hn] at hm; cases hm), by rw [hn]; exact List.nodup_nil⟩
  rw [hp] at hq
  have : q.2 = q.1.2 ∧ q.1 ∈ r.pre := by
    have : ∀ (l : List (Addr × Obj)) (q : (Addr × Obj) × Obj), q ∈ l.zip (l.map (·.2)) → q.2 = q.1.2 ∧ q.1 ∈ l := by
      intro l
      induction l with
      | nil => intro q hq; cases hq
      | cons a l ih =>
        intro q hq
        rw [List.map_cons, List.zip_cons_cons] at hq
        rcases List.mem_cons.mp hq with rfl | hq
        · exact ⟨rfl, .head _⟩
        · exact ⟨(ih q hq).1, .tail _ (ih q hq).2⟩
    exact this _ _ hq
  rw [this.1]
  exact (hpre _ this.2).1
noncomputable def rLenStr (b : Str) (t : Nat) : Rc := { code := .call (.builtin "len") ⟨[.str b t], []⟩, lvl := 900, pre := [], post := fun _ => [], new := fun _ => [], res := fun x => .ok (.ret (.int (Int.ofNat b.cps.size) (x.n 2 + 1))) }
theorem sLenStr (prog : Program) (w : World) (top : KT) (b : Str) (t : Nat) (hb : b.cps.size < 1000) : Spec prog w top (rLenStr b t) := by
  refine spec_toks _ (fun _ => rfl) (fun _ => rfl) 2 (fun tk => .ok (.ret (.int (Int.ofNat b.cps.size) (tk + 1)))) (fun _ => rfl) fun A s _ _ R h => ?_
  refine codeAny_fn kind_len plain_len entry_len (args_len1 _) ?_
  unfold Builtin.«len»
  refine wpAny_bind (m := oneArg "len" _) (wpAny_pure ?_)
  refine wpAny_bind (m := callSpecial? (.str b t) (Str.ofString "__len__")) (wpAny_callSpecial?_slot (name := Str.ofString "__len__") (typeIs_str s b t) F.slot_str_len (call_gives F.slot_str_len (typeIs_str s b t) F.entry_str_len (F.args_str_len_1 _) (gives_str_len b t) ?_))
  show wpAny _ _ _ _ _ { s with toks := s.toks + 1 }
  refine wpAny_bind (wpAny_holding (wpAny_pure ?_))
  refine wpAny_bind (wpAny_letGo ?_)
  have e : (b.length : Int) = Int.ofNat b.cps.size := rfl
  show wpAny _ _ (if (b.length : Int) < 0 then _ else _) _ _ _
  rw [if_neg (by omega)]
  show wpAny _ _ (if (b.length : Int) ≥ 2 ^ 63 then _ else _) _ _ _
  rw [if_neg (by rw [e]; have : (Int.ofNat b.cps.size) = (b.cps.size : Int) := rfl; omega)]
  exact wpAny_bind (wpAny_mkInt (wpAny_pure ⟨_, rfl, h⟩))
noncomputable def sliceO (a b : Value) : Obj := { cls := .type "slice", data := .fields ⟨[a, b, .none]⟩ }
/-- one sign out of a text -/
noncomputable def rSign (b : Str) (t : Nat) (sl : Addr) (p : Nat) (tp : Nat) (q : Int) (tq : Nat) (c : Nat) : Rc :=
  { code := .call (.builtin "str.__getitem__") ⟨[.str b t, .ref sl], []⟩, lvl := 900, pre := [(sl, sliceO (.int (Int.ofNat p) tp) (.int q tq))], post := fun _ => [sliceO (.int (Int.ofNat p) tp) (.int q tq)], new := fun _ => [], res := fun x => .ok (.ret (.str (.mk ⟨[c]⟩) (x.n 2))) }
theorem sSign (prog : Program) (w : World) (top : KT) (b : Str) (t : Nat) (sl : Addr) (p tp : Nat) (q : Int) (tq c : Nat) (hq : q = (p : Int) + 1) (hc : b.cps[p]? = some c) (h2 : 2 ≤ b.cps.size) : Spec prog w top (rSign b t sl p tp q tq c) := by
  subst hq
  refine spec_toks _ (fun _ => rfl) (fun _ => rfl) 1 (fun tk => .ok (.ret (.str (.mk ⟨[c]⟩) tk))) (fun _ => rfl) fun A s _ hp R h => ?_
  have hs : s.heap.IsSlice sl (some ((p : Int), tp)) (some ((p : Int) + 1, tq)) none := ⟨_, hp _ (.head _), rfl, rfl⟩
  have hlt : p < b.cps.size := (Array.getElem?_eq_some_iff.mp hc).1
  have hpick : slicePicked b (some ((p : Int), tp)) (some ((p : Int) + 1, tq)) none = [p] := by
    show PySem.Builtin.Str.strSliceIndices (some (p : Int)) (some ((p : Int) + 1)) 1 b.length = [p]
    have hl : (b.length : Int) = (b.cps.size : Int) := rfl
    unfold PySem.Builtin.Str.strSliceIndices
    dsimp only
    simp only [show ((1 : Int) > 0) = True from eq_true (by decide), if_true, hl]
    rw [if_neg (by omega), if_neg (by omega)]
    rw [show max (0 : Int) (min (p : Int) (b.cps.size : Int)) = (p : Int) by omega, show max (0 : Int) (min ((p : Int) + 1) (b.cps.size : Int)) = ((p + 1 : Nat) : Int) by omega]
    rw [sliceRange_one]
    rw [show p + 1 - p = 1 by omega]
    rfl
  have hmade : sliceMade b t (some ((p : Int), tp)) (some ((p : Int) + 1, tq)) none = .str (.mk ⟨[c]⟩) := by
    unfold sliceMade
    rw [hpick]
    have hl : b.length = b.cps.size := rfl
    rw [if_neg (by rw [hl]; simp; omega)]
    simp [hc]
  refine codeAny_slotM F.slot_str_getitem (typeIs_str s b t) F.entry_str_getitem (F.args_str_getitem_2 _ _) ?_
  exact meets_str_getitem_slice b t sl (some ((p : Int), tp)) (some ((p : Int) + 1, tq)) none rfl prog w A R s ⟨hs, by
    rw [hmade]
    exact ⟨by show 1 ≤ sizeLine; decide, h⟩⟩
noncomputable def noPre (c : Code) (v : Ov → Value) : Rc := { code := c, lvl := 900, pre := [], post := fun _ => [], new := fun _ => [], res := fun x => .ok (.ret (v x)) }
noncomputable def rGe (a b : Int) (ta tb : Nat) (r : Bool) : Rc := noPre (.call (.builtin "int.__ge__") ⟨[.int a ta, .int b tb], []⟩) fun _ => .bool r
noncomputable def rLt (a b : Int) (ta tb : Nat) (r : Bool) : Rc := noPre (.call (.builtin "int.__lt__") ⟨[.int a ta, .int b tb], []⟩) fun _ => .bool r
noncomputable def rEq (a b : Int) (ta tb : Nat) (r : Bool) : Rc := noPre (.call (.builtin "int.__eq__") ⟨[.int a ta, .int b tb], []⟩) fun _ => .bool r
theorem sGe (prog : Program) (w : World) (top : KT) (a b : Int) (ta tb : Nat) (r : Bool) (h : decide (a ≥ b) = r) : Spec prog w top (rGe a b ta tb r) := by
  refine spec_toks _ (fun _ => rfl) (fun _ => rfl) 0 (fun tk => .ok (.ret (.bool r))) (fun _ => rfl) fun A s _ _ R hR => ?_
  refine codeAny_slot F.slot_int_ge (typeIs_int s a ta) F.entry_int_ge (F.args_int_ge_2 _ _) ?_
  exact (show wpAny _ _ (ret (.bool (decide (a ≥ b)))) _ _ s from wpAny_pure ⟨_, rfl, by rw [h]; exact hR⟩)
theorem sLt (prog : Program) (w : World) (top : KT) (a b : Int) (ta tb : Nat) (r : Bool) (h : decide (a < b) = r) : Spec prog w top (rLt a b ta tb r) := by
  refine spec_toks _ (fun _ => rfl) (fun _ => rfl) 0 (fun tk => .ok (.ret (.bool r))) (fun _ => rfl) fun A s _ _ R hR => ?_
  refine codeAny_slot F.slot_int_lt (typeIs_int s a ta) F.entry_int_lt (F.args_int_lt_2 _ _) ?_
  exact (show wpAny _ _ (ret (.bool (decide (a < b)))) _ _ s from wpAny_pure ⟨_, rfl, by rw [h]; exact hR⟩)
theorem sEq (prog : Program) (w : World) (top : KT) (a b : Int) (ta tb : Nat) (r : Bool) (h : (a == b) = r) : Spec prog w top (rEq a b ta tb r) := by
  refine spec_toks _ (fun _ => rfl) (fun _ => rfl) 0 (fun tk => .ok (.ret (.bool r))) (fun _ => rfl) fun A s _ _ R hR => ?_
  refine codeAny_slot F.slot_int_eq (typeIs_int s a ta) F.entry_int_eq (F.args_int_eq_2 _ _) ?_
  exact (show wpAny _ _ (ret (.bool (a == b))) _ _ s from wpAny_pure ⟨_, rfl, by rw [h]; exact hR⟩)
/-- the tokens of a call's arguments -/
noncomputable def tokV (v : Value) : Nat := match v with
  | .int _ t => t
  | .str _ t => t
  | _ => 0
noncomputable def adrV (v : Value) : Nat := match v with
  | .ref a => a
  | _ => 0
noncomputable def argsC (c : Code) : List Value := match c with
  | .call _ a => a.pos
  | _ => []
noncomputable def nthV (l : List Value) (i : Nat) : Value := List.rec (motive := fun _ => Nat → Value) (fun _ => .none) (fun v _ ih i => Nat.rec (motive := fun _ => Value) v (fun j _ => ih j) i) l i
noncomputable def tk0 (c : Code) : Nat := tokV (nthV (argsC c) 0)
noncomputable def tk1 (c : Code) : Nat := tokV (nthV (argsC c) 1)
noncomputable def ad1 (c : Code) : Nat := adrV (nthV (argsC c) 1)
noncomputable def ad0 (c : Code) : Nat := adrV (nthV (argsC c) 0)
noncomputable def tupO (l : List Value) : Obj := { cls := .type "tuple", data := .seq ⟨l⟩ 0 }
/-- «x in (y, z)» of three texts -/
noncomputable def rInTup (t : Addr) (x y z : Str) (tx ty tz : Nat) (r : Bool) : Rc :=
  { code := .call (.builtin "tuple.__contains__") ⟨[.ref t, .str x tx], []⟩, lvl := 900, pre := [(t, tupO [.str y ty, .str z tz])], post := fun _ => [tupO [.str y ty, .str z tz]], new := fun _ => [], res := fun _ => .ok (.ret (.bool r)) }
theorem sInTup (prog : Program) (w : World) (top : KT) (t : Addr) (x y z : Str) (tx ty tz : Nat) (r : Bool) (h : (([y, z] : List Str).any (· == x)) = r) : Spec prog w top (rInTup t x y z tx ty tz r) := by
  refine spec_toks _ (fun _ => rfl) (fun _ => rfl) 0 (fun tk => .ok (.ret (.bool r))) (fun _ => rfl) fun A s _ hp R hR => ?_
  have ht : IsTup s.heap t (⟨[.str y ty, .str z tz]⟩ : Array Value) := ⟨_, hp _ (.head _), rfl, 0, rfl⟩
  refine codeAny_slot F.slot_tuple_contains ⟨_, hp _ (.head _), rfl⟩ F.entry_tuple_contains (F.args_tuple_contains_2 _ _) ?_
  exact tuple_contains_strs ht (.cons _ _ (.cons _ _ .nil)) ⟨_, rfl, by rw [h]; exact hR⟩
end Mine
end
end
section
open PySem PySem.W PySem.W.X PyProof.Rows PySem.Calls
noncomputable section
namespace Mine
noncomputable def fol (b : Bool) (P : Params) : Params := { P with followText := fun s => if s = "special-get-raises" then b else P.followText s }
noncomputable def en (h : Int) (s : String) (t : Nat) (v : Value) : DictEntry := ⟨h, .str (.ofString s) t, v⟩
noncomputable def objI (c d : Addr) : Obj := { cls := .ref c, dict := some d, data := .plain }
noncomputable def dicO (es : List DictEntry) (n : Nat) : Obj := { cls := .type "dict", data := .dict ⟨es⟩ n }
noncomputable abbrev runP (P' : Params) (p : Program) (top : KT) (fuel : Nat) (r : Rc) (o : Nat) (R : Nat → Nat → Rcs) (xs : Nat → Ov) (m tk : Nat) : Out :=
  ev ⟨p, P'⟩ top false r.fr fuel r.lvl r.code .base (den' r.code) o (R m tk) xs (led0 r) (m + 829) tk [] []
/-- the kernel's part of a contract -/
noncomputable def ChkP (P' : Params) (p : Program) (top : KT) (fuel : Nat) (r : Rc) (o : Nat) (R : Nat → Nat → Rcs) (is : List Nat) (X : WX) : Prop :=
  ∀ m tk xs, lhs (runP P' p top fuel r o R xs m tk) is = rhs (runP P' p top fuel r o R xs m tk) (fun n t led => want r (X m tk xs n t led))
noncomputable abbrev Chk (b : Bool) (P : Params) (p : Program) (top : KT) (fuel : Nat) (r : Rc) (o : Nat) (R : Nat → Nat → Rcs) (is : List Nat) (X : WX) : Prop := ChkP (fol b P) p top fuel r o R is X
noncomputable def fol2 (b : Bool) (P : Params) : Params := { P with followText := fun s => if s = "comprehension-iter-twice" then b else P.followText s }
noncomputable abbrev Chk2 (b : Bool) (P : Params) (p : Program) (top : KT) (fuel : Nat) (r : Rc) (o : Nat) (R : Nat → Nat → Rcs) (is : List Nat) (X : WX) : Prop := ChkP (fol2 b P) p top fuel r o R is X
noncomputable def mkX (f : Nat → Nat → (Nat → Ov) → Nat → Nat → Nat → Nat) (g : (Nat → Ov) → Nat → Nat → Nat := fun _ _ _ => 0) (h : (Nat → Ov) → Led → Nat → Obj := fun _ _ _ => default) (w : (Nat → Ov) → Ov := fun _ => xx 0 0 0) : WX := fun m tk xs n t led => ⟨fun i => match i with | 0 => n | 1 => t | j + 2 => f m tk xs n t j, g xs, h xs led, (w xs).p, (w xs).b⟩
noncomputable def ob (led : Led) (i : Nat) : Obj := match nth led i with | some p => p.2 | none => default
noncomputable def nthE (l : List DictEntry) (i : Nat) : Int := List.rec (motive := fun _ => Nat → Int) (fun _ => 0) (fun e _ ih i => Nat.rec (motive := fun _ => Int) e.hash (fun j _ => ih j) i) l i
noncomputable def hashAt (o : Obj) (i : Nat) : Int := match o.data with | .dict es _ => nthE es.toList i | _ => 0
noncomputable def fldAt (o : Obj) : List Value := match o.data with | .fields es => es.toList | _ => []
theorem fol_self (b : Bool) (P : Params) (h : P.followText "special-get-raises" = b) : fol b P = P := by
  unfold fol
  have : (fun s => if s = "special-get-raises" then b else P.followText s) = P.followText := by
    funext s
    split
    · rename_i e; rw [e, h]
    · rfl
  rw [this]
theorem fol2_self (b : Bool) (P : Params) (h : P.followText "comprehension-iter-twice" = b) : fol2 b P = P := by
  unfold fol2
  have : (fun s => if s = "comprehension-iter-twice" then b else P.followText s) = P.followText := by
    funext s
    split
    · rename_i e; rw [e, h]
    · rfl
  rw [this]
theorem spec_chkP {p : Program} {w : World} {top : KT} (T : Top top p w) (r : Rc) (fuel o : Nat) (R : Nat → Nat → Rcs) (hR : ∀ m tk, RcsOk p w top (R m tk)) (is : List Nat)
    (f : Nat → Nat → (Nat → Ov) → Nat → Nat → Nat → Nat) (g : (Nat → Ov) → Nat → Nat → Nat) (h : (Nat → Ov) → Led → Nat → Obj) (u : (Nat → Ov) → Ov) (hl : r.lvl ≤ 900) (hc : r.code.isCaller = false) (hlen : ∀ x, (r.post x).length = r.pre.length) (nd : is.Nodup)
    (H : ChkP w.params p top fuel r o R is (mkX f g h u)) : Spec p w top r :=
  spec_of T ⟨p, w.params⟩ rfl r fuel o R hR is (mkX f g h u) hl hc (fun _ _ _ _ _ _ => ⟨rfl, rfl⟩) hlen nd H
theorem spec_chk {p : Program} {w : World} {top : KT} (T : Top top p w) (b : Bool) (hb : w.params.followText "special-get-raises" = b) (r : Rc) (fuel o : Nat) (R : Nat → Nat → Rcs) (hR : ∀ m tk, RcsOk p w top (R m tk)) (is : List Nat)
    (f : Nat → Nat → (Nat → Ov) → Nat → Nat → Nat → Nat) (g : (Nat → Ov) → Nat → Nat → Nat) (h : (Nat → Ov) → Led → Nat → Obj) (u : (Nat → Ov) → Ov) (hl : r.lvl ≤ 900) (hc : r.code.isCaller = false) (hlen : ∀ x, (r.post x).length = r.pre.length) (nd : is.Nodup)
    (H : Chk b w.params p top fuel r o R is (mkX f g h u)) : Spec p w top r :=
  spec_chkP T r fuel o R hR is f g h u hl hc hlen nd (fol_self b _ hb ▸ H)
end Mine
end
end
section
open PySem PySem.W PySem.W.X PyProof.Rows PySem.Calls
noncomputable section
namespace Mine
/-! StringIO.read(1) -/
noncomputable def sioD (hh : Nat → Int) (kt : Nat → Nat) (b : Str) (tb : Nat) (p : Nat) (tp : Nat) : Obj := dicO [en (hh 0) "_StringIO__newline" (kt 0) (.str (.mk ⟨[10]⟩) 731), en (hh 1) "_StringIO__buf" (kt 1) (.str b tb), en (hh 2) "_StringIO__pos" (kt 2) (.int (Int.ofNat p) tp)] 3
noncomputable def oSio (dx : Addr) : Obj := objI 629 dx
noncomputable def rRead (x dx : Addr) (hh : Nat → Int) (kt : Nat → Nat) (b : Str) (tb p tp t1 c : Nat) : Rc :=
  { code := .call (.ref 575) ⟨[.ref x, .int 1 t1], []⟩, lvl := 860, pre := [(x, oSio dx), (dx, sioD hh kt b tb p tp)], post := fun z => [oSio dx, sioD hh kt b tb (p + 1) (z.n 2)], new := fun _ => [], res := fun z => .ok (.ret (.str (.mk ⟨[c]⟩) (z.n 3))) }
noncomputable def rEof (x dx : Addr) (hh : Nat → Int) (kt : Nat → Nat) (b : Str) (tb p tp t1 : Nat) : Rc :=
  { code := .call (.ref 575) ⟨[.ref x, .int 1 t1], []⟩, lvl := 860, pre := [(x, oSio dx), (dx, sioD hh kt b tb p tp)], post := fun z => [oSio dx, sioD hh kt b tb p tp], new := fun _ => [], res := fun z => .ok (.ret (.str (.mk ⟨[]⟩) (z.n 2))) }
noncomputable def rReadMid (x dx : Addr) (hh : Nat → Int) (kt : Nat → Nat) (b : Str) (tb p tp t1 c : Nat) : Rc := rRead x dx hh kt b tb p tp t1 c
noncomputable def rReadMidR (x dx : Addr) (hh : Nat → Int) (kt : Nat → Nat) (b : Str) (tb p tp t1 c m tk : Nat) : Rcs :=
  .cons (fun _ => rLenStr b tb) fun _ => .cons (fun c => rGe (Int.ofNat p) (Int.ofNat b.cps.size) (tk0 c) (tk1 c) false) fun _ => .cons (fun c => rLt (Int.ofNat p + 1) (Int.ofNat b.cps.size) (tk0 c) (tk1 c) true) fun z2 =>
  .cons (fun k => rSign b tb (ad1 k) p tp (Int.ofNat p + 1) (z2.n 1) c) fun _ => .nil
noncomputable def rReadLast (x dx : Addr) (hh : Nat → Int) (kt : Nat → Nat) (b : Str) (tb p tp t1 c : Nat) : Rc :=
  { rRead x dx hh kt b tb p tp t1 c with post := fun z => [oSio dx, sioD hh kt b tb b.cps.size (z.n 2)] }
noncomputable def rReadLastR (x dx : Addr) (hh : Nat → Int) (kt : Nat → Nat) (b : Str) (tb p tp t1 c m tk : Nat) : Rcs :=
  .cons (fun _ => rLenStr b tb) fun z => .cons (fun c => rGe (Int.ofNat p) (Int.ofNat b.cps.size) (tk0 c) (tk1 c) false) fun _ => .cons (fun c => rLt (Int.ofNat p + 1) (Int.ofNat b.cps.size) (tk0 c) (tk1 c) false) fun z2 =>
  .cons (fun k => rSign b tb (ad1 k) p tp (Int.ofNat b.cps.size) (z.n 2 + 1) c) fun _ => .nil
noncomputable def rEofR (x dx : Addr) (hh : Nat → Int) (kt : Nat → Nat) (b : Str) (tb p tp t1 m tk : Nat) : Rcs :=
  .cons (fun _ => rLenStr b tb) fun _ => .cons (fun c => rGe (Int.ofNat p) (Int.ofNat b.cps.size) (tk0 c) (tk1 c) true) fun _ => .nil
end Mine
end
end
section
open PySem PySem.W PySem.W.X PyProof.Rows PySem.Calls
noncomputable section
namespace Mine
/-! shlex: its object, and read_token upon one quoted word -/
noncomputable def wordchars : Str := .mk ⟨[97, 98, 99, 100, 102, 101, 103, 104, 105, 106, 107, 108, 109, 110, 111, 112, 113, 114, 115, 116, 117, 118, 119, 120, 121, 122, 65, 66, 67, 68, 69, 70, 71, 72, 73, 74, 75, 76, 77, 78, 79, 80, 81, 82, 83, 84, 85, 86, 87, 88, 89, 90, 48, 49, 50, 51, 52, 53, 54, 55, 56, 57, 95, 223, 224, 225, 226, 227, 228, 229, 230, 231, 232, 233, 234, 235, 236, 237, 238, 239, 240, 241, 242, 243, 244, 245, 246, 248, 249, 250, 251, 252, 253, 254, 255, 192, 193, 194, 195, 196, 197, 198, 199, 200, 201, 202, 203, 204, 205, 206, 207, 208, 209, 210, 211, 212, 213, 214, 216, 217, 218, 219, 220, 221, 222]⟩
noncomputable def st1 (c : Nat) (t : Nat) : Value := .str (.mk ⟨[c]⟩) t
noncomputable def shD (hh : Nat → Int) (kt vt : Nat → Nat) (ins pb fs : Addr) (state token : Value) : Obj := dicO [
  en (hh 0) "instream" (kt 0) (.ref ins), en (hh 1) "infile" (kt 1) .none, en (hh 2) "posix" (kt 2) (.bool true), en (hh 3) "eof" (kt 3) .none,
  en (hh 4) "commenters" (kt 4) (st1 35 (vt 0)), en (hh 5) "wordchars" (kt 5) (.str wordchars (vt 1)), en (hh 6) "whitespace" (kt 6) (.str (.mk ⟨[32, 9, 13, 10]⟩) (vt 2)),
  en (hh 7) "whitespace_split" (kt 7) (.bool false), en (hh 8) "quotes" (kt 8) (.str (.mk ⟨[39, 34]⟩) (vt 3)), en (hh 9) "escape" (kt 9) (st1 92 (vt 4)),
  en (hh 10) "escapedquotes" (kt 10) (st1 34 (vt 5)), en (hh 11) "state" (kt 11) state, en (hh 12) "pushback" (kt 12) (.ref pb), en (hh 13) "lineno" (kt 13) (.int 1 (vt 6)),
  en (hh 14) "debug" (kt 14) (.int 0 (vt 7)), en (hh 15) "token" (kt 15) token, en (hh 16) "filestack" (kt 16) (.ref fs), en (hh 17) "source" (kt 17) .none,
  en (hh 18) "_punctuation_chars" (kt 18) (.str (.mk ⟨[]⟩) (vt 8))] 19
noncomputable def oSh (d : Addr) : Obj := objI 764 d
noncomputable def emptyT (t : Nat) : Value := .str (.mk ⟨[]⟩) t
noncomputable def tA : Nat := 12
/-- reads of the signs cs from p on, then K -/
noncomputable def rdR (y dy : Addr) (hh : Nat → Int) (kt : Nat → Nat) (b : Str) (tb : Nat) (K : Nat → Nat → Rcs) (cs : List Nat) : Nat → Nat → Rcs :=
  List.rec (motive := fun _ => Nat → Nat → Rcs) (fun p tp => K p tp) (fun c _ ih p tp => .cons (fun k => rRead y dy hh kt b tb p tp (tk1 k) c) (fun z => ih (p + 1) (z.n 2))) cs
/-- shlex.read_token: a word's text cs, then a blank -/
noncomputable def rTok (x dx y dy pb fs : Addr) (hx hy : Nat → Int) (kx ky vt : Nat → Nat) (b : Str) (tb p tp ts tt : Nat) (cs word : List Nat) : Rc :=
  { code := .call (.ref 732) ⟨[.ref x], []⟩, lvl := 800, pre := [(x, oSh dx), (dx, shD hx kx vt y pb fs (st1 32 ts) (emptyT tt)), (y, oSio dy), (dy, sioD hy ky b tb p tp)],
    post := fun z => [oSh dx, shD hx kx vt y pb fs (st1 32 (z.n 2)) (emptyT (z.n 3)), oSio dy, sioD hy ky b tb (p + cs.length + 1) (z.n 4)], new := fun _ => [], res := fun z => .ok (.ret (.str (.mk ⟨word⟩) (z.n 5))) }
noncomputable def rTokR (x dx y dy pb fs : Addr) (hx hy : Nat → Int) (kx ky vt : Nat → Nat) (b : Str) (tb p tp ts tt : Nat) (cs word : List Nat) (m tk : Nat) : Rcs :=
  rdR y dy hy ky b tb (fun p tp => .cons (fun k => rRead y dy hy ky b tb p tp (tk1 k) 32) fun z => .cons (fun k => rInTup (ad0 k) (.mk ⟨[97]⟩) (.mk ⟨[97]⟩) (.mk ⟨[99]⟩) (tk1 k) (z.n 1 + tA) (z.n 1 + tA + 1) true) fun _ => .nil) cs p tp
/-- the same at the text's end -/
noncomputable def rTokE (x dx y dy pb fs : Addr) (hx hy : Nat → Int) (kx ky vt : Nat → Nat) (b : Str) (tb p tp ts tt : Nat) (cs word : List Nat) : Rc :=
  { code := .call (.ref 732) ⟨[.ref x], []⟩, lvl := 800, pre := [(x, oSh dx), (dx, shD hx kx vt y pb fs (st1 32 ts) (emptyT tt)), (y, oSio dy), (dy, sioD hy ky b tb p tp)],
    post := fun z => [oSh dx, shD hx kx vt y pb fs .none (emptyT (z.n 2)), oSio dy, sioD hy ky b tb (p + cs.length) (z.n 3)], new := fun _ => [], res := fun z => .ok (.ret (.str (.mk ⟨word⟩) (z.n 4))) }
noncomputable def rTokER (x dx y dy pb fs : Addr) (hx hy : Nat → Int) (kx ky vt : Nat → Nat) (b : Str) (tb p tp ts tt : Nat) (cs word : List Nat) (m tk : Nat) : Rcs :=
  rdR y dy hy ky b tb (fun p tp => .cons (fun k => rEof y dy hy ky b tb p tp (tk1 k)) fun z => .cons (fun k => rInTup (ad0 k) (.mk ⟨[97]⟩) (.mk ⟨[97]⟩) (.mk ⟨[99]⟩) (tk1 k) (z.n 1 + tA) (z.n 1 + tA + 1) true) fun _ => .nil) cs p tp
noncomputable def q0 : List Nat := [34, 39, 34]
noncomputable def q1 : List Nat := [34, 105, 116, 39, 115, 34]
noncomputable def q2 : List Nat := [34, 105, 116, 39, 115, 32, 92, 92, 34]
noncomputable def q3 : List Nat := [34, 111, 39, 34]
noncomputable def w0 : List Nat := [39]
noncomputable def w1 : List Nat := [105, 116, 39, 115]
noncomputable def w2 : List Nat := [105, 116, 39, 115, 32, 92]
noncomputable def w3 : List Nat := [111, 39]
noncomputable def rTok0 (x dx y dy pb fs : Addr) (hx hy : Nat → Int) (kx ky vt : Nat → Nat) (b : Str) (tb p tp ts tt : Nat) : Rc := rTok x dx y dy pb fs hx hy kx ky vt b tb p tp ts tt q0 w0
noncomputable def rTok0R (x dx y dy pb fs : Addr) (hx hy : Nat → Int) (kx ky vt : Nat → Nat) (b : Str) (tb p tp ts tt : Nat) (m tk : Nat) : Rcs := rTokR x dx y dy pb fs hx hy kx ky vt b tb p tp ts tt q0 w0 m tk
noncomputable def rTokE0 (x dx y dy pb fs : Addr) (hx hy : Nat → Int) (kx ky vt : Nat → Nat) (b : Str) (tb p tp ts tt : Nat) : Rc := rTokE x dx y dy pb fs hx hy kx ky vt b tb p tp ts tt q0 w0
noncomputable def rTokE0R (x dx y dy pb fs : Addr) (hx hy : Nat → Int) (kx ky vt : Nat → Nat) (b : Str) (tb p tp ts tt : Nat) (m tk : Nat) : Rcs := rTokER x dx y dy pb fs hx hy kx ky vt b tb p tp ts tt q0 w0 m tk
noncomputable def rTok1 (x dx y dy pb fs : Addr) (hx hy : Nat → Int) (kx ky vt : Nat → Nat) (b : Str) (tb p tp ts tt : Nat) : Rc := rTok x dx y dy pb fs hx hy kx ky vt b tb p tp ts tt q1 w1
noncomputable def rTok1R (x dx y dy pb fs : Addr) (hx hy : Nat → Int) (kx ky vt : Nat → Nat) (b : Str) (tb p tp ts tt : Nat) (m tk : Nat) : Rcs := rTokR x dx y dy pb fs hx hy kx ky vt b tb p tp ts tt q1 w1 m tk
noncomputable def rTokE1 (x dx y dy pb fs : Addr) (hx hy : Nat → Int) (kx ky vt : Nat → Nat) (b : Str) (tb p tp ts tt : Nat) : Rc := rTokE x dx y dy pb fs hx hy kx ky vt b tb p tp ts tt q1 w1
noncomputable def rTokE1R (x dx y dy pb fs : Addr) (hx hy : Nat → Int) (kx ky vt : Nat → Nat) (b : Str) (tb p tp ts tt : Nat) (m tk : Nat) : Rcs := rTokER x dx y dy pb fs hx hy kx ky vt b tb p tp ts tt q1 w1 m tk
noncomputable def rTok2 (x dx y dy pb fs : Addr) (hx hy : Nat → Int) (kx ky vt : Nat → Nat) (b : Str) (tb p tp ts tt : Nat) : Rc := rTok x dx y dy pb fs hx hy kx ky vt b tb p tp ts tt q2 w2
noncomputable def rTok2R (x dx y dy pb fs : Addr) (hx hy : Nat → Int) (kx ky vt : Nat → Nat) (b : Str) (tb p tp ts tt : Nat) (m tk : Nat) : Rcs := rTokR x dx y dy pb fs hx hy kx ky vt b tb p tp ts tt q2 w2 m tk
noncomputable def rTokE2 (x dx y dy pb fs : Addr) (hx hy : Nat → Int) (kx ky vt : Nat → Nat) (b : Str) (tb p tp ts tt : Nat) : Rc := rTokE x dx y dy pb fs hx hy kx ky vt b tb p tp ts tt q2 w2
noncomputable def rTokE2R (x dx y dy pb fs : Addr) (hx hy : Nat → Int) (kx ky vt : Nat → Nat) (b : Str) (tb p tp ts tt : Nat) (m tk : Nat) : Rcs := rTokER x dx y dy pb fs hx hy kx ky vt b tb p tp ts tt q2 w2 m tk
noncomputable def rTok3 (x dx y dy pb fs : Addr) (hx hy : Nat → Int) (kx ky vt : Nat → Nat) (b : Str) (tb p tp ts tt : Nat) : Rc := rTok x dx y dy pb fs hx hy kx ky vt b tb p tp ts tt q3 w3
noncomputable def rTok3R (x dx y dy pb fs : Addr) (hx hy : Nat → Int) (kx ky vt : Nat → Nat) (b : Str) (tb p tp ts tt : Nat) (m tk : Nat) : Rcs := rTokR x dx y dy pb fs hx hy kx ky vt b tb p tp ts tt q3 w3 m tk
noncomputable def rTokE3 (x dx y dy pb fs : Addr) (hx hy : Nat → Int) (kx ky vt : Nat → Nat) (b : Str) (tb p tp ts tt : Nat) : Rc := rTokE x dx y dy pb fs hx hy kx ky vt b tb p tp ts tt q3 w3
noncomputable def rTokE3R (x dx y dy pb fs : Addr) (hx hy : Nat → Int) (kx ky vt : Nat → Nat) (b : Str) (tb p tp ts tt : Nat) (m tk : Nat) : Rcs := rTokER x dx y dy pb fs hx hy kx ky vt b tb p tp ts tt q3 w3 m tk
end Mine
end
end
section
open PySem PySem.W PySem.W.X PyProof.Rows PySem.Calls PySem.MeetsSeq PySem.SeqAt
noncomputable section
namespace Mine
noncomputable def lstO (xs : List Value) (n : Nat) : Obj := { cls := .type "list", data := .seq ⟨xs⟩ n }
/-- one object changed in place -/
theorem spec_upd {prog : Program} {w : World} {top : KT} (r : Rc) (l : Addr) (o : Obj) (f : Obj → Obj) (hf : (f o).isFreed = false) (hpre : r.pre = [(l, o)]) (hp : ∀ x, r.post x = [f o]) (hn : ∀ x, r.new x = []) (k : Nat) (val : Nat → Result) (hr : ∀ x, r.res x = val (x.n 2))
    (h : ∀ A s, Fine A r.lvl → s.heap.get? l = some o → ∀ R : Result → Shared → Prop, R (val s.toks) { s with heap := s.heap.update l f, toks := s.toks + k } → codeAny (model prog w) A r.code R s) : Spec prog w top r := by
  intro A fA ffr s tp hpre' nd
  have ho : s.heap.get? l = some o := (hpre' (l, o) (by rw [hpre]; exact .head _)).1
  refine h A s fA ho _ ⟨xx s.heap.objs.size (s.toks + k) s.toks, (hr (xx s.heap.objs.size (s.toks + k) s.toks)).symm, rfl, rfl, rfl, rfl, Heap.size_after_update .., Nat.le_refl _, by rw [hp, hpre]; rfl, fun q hq => ?_, fun b ob e nb => ?_, fun p hm => by (rw [hn] at hm; cases hm), by rw [hn]; exact List.nodup_nil⟩
  · rw [hp, hpre] at hq
    rcases List.mem_singleton.mp (show q ∈ [((l, o), f o)] from hq) with rfl
    exact Heap.get?_update_self f ho hf
  · show (s.heap.update l f).get? b = some ob
    rw [Heap.get?_update_other _ f (nb (l, o) (by rw [hpre]; exact .head _))]; exact e
/-- one object made -/
theorem spec_mk {prog : Program} {w : World} {top : KT} (r : Rc) (o : Obj) (hf : o.isFreed = false) (hp : ∀ x, r.post x = r.pre.map (·.2)) (hn : ∀ x, r.new x = [(x.n 2, o)]) (hr : ∀ x, r.res x = .ok (.ret (.ref (x.n 2)))) (k : Nat)
    (h : ∀ A s, Fine A r.lvl → (∀ q ∈ r.pre, s.heap.get? q.1 = some q.2) → ∀ R : Result → Shared → Prop, R (.ok (.ret (.ref s.heap.objs.size))) { s with heap := s.heap.push o, toks := s.toks + k } → codeAny (model prog w) A r.code R s) : Spec prog w top r := by
  intro A fA ffr s tp hpre nd
  have hg : ∀ b ob, s.heap.get? b = some ob → (s.heap.push o).get? b = some ob := fun b ob e => Heap.get?_push_of_some _ e
  refine h A s fA (fun q hq => (hpre q hq).1) _ ⟨xx (s.heap.objs.size + 1) (s.toks + k) s.heap.objs.size, (hr (xx (s.heap.objs.size + 1) (s.toks + k) s.heap.objs.size)).symm, rfl, rfl, rfl, rfl, Heap.size_push .., Nat.le_succ _, by rw [hp, List.length_map], fun q hq => ?_, fun b ob e _ => hg _ _ e, fun p hm => ?_, by rw [hn]; simp⟩
  · rw [hp] at hq
    have : q.2 = q.1.2 ∧ q.1 ∈ r.pre := by
      have : ∀ (l : List (Addr × Obj)) (q : (Addr × Obj) × Obj), q ∈ l.zip (l.map (·.2)) → q.2 = q.1.2 ∧ q.1 ∈ l := by
        intro l
        induction l with
        | nil => intro q hq; cases hq
        | cons a l ih =>
          intro q hq
          rw [List.map_cons, List.zip_cons_cons] at hq
          rcases List.mem_cons.mp hq with rfl | hq
          · exact ⟨rfl, .head _⟩
          · exact ⟨(ih q hq).1, .tail _ (ih q hq).2⟩
      exact this _ _ hq
    rw [this.1]
    exact hg _ _ (hpre _ this.2).1
  · rw [hn] at hm
    rcases List.mem_singleton.mp hm with rfl
    exact ⟨Heap.get?_push_size _ hf, Nat.le_refl _⟩
section
variable (prog : Program) (w : World) (top : KT)
theorem line_big {n : Nat} (h : n < 1000) : n ≤ sizeLine := Nat.le_trans (Nat.le_of_lt h) (by decide +kernel)
noncomputable def rApp (l : Addr) (xs : List Value) (n : Nat) (v : Value) : Rc := { code := .call (.builtin "list.append") ⟨[.ref l, v], []⟩, lvl := 900, pre := [(l, lstO xs n)], post := fun _ => [lstO (xs ++ [v]) (n + 1)], new := fun _ => [], res := fun _ => .ok (.ret .none) }
theorem sApp (l : Addr) (xs : List Value) (n : Nat) (v : Value) (hs : xs.length < 1000) : Spec prog w top (rApp l xs n v) := by
  have e : Obj.mapSeq (fun x => x.push v) (lstO xs n) = lstO (xs ++ [v]) (n + 1) := by
    simp [Obj.mapSeq, lstO]
  refine spec_upd _ l (lstO xs n) (Obj.mapSeq fun x => x.push v) (by rw [e]; rfl) rfl (fun _ => by rw [e]; rfl) (fun _ => rfl) 0 (fun _ => .ok (.ret .none)) (fun _ => rfl) fun A s _ ho R h => ?_
  refine codeAny_slotM F.slot_list_append ⟨_, ho, rfl⟩ F.entry_list_append (F.args_list_append_2 _ _) ?_
  exact list_append l ⟨xs⟩ n v (line_big hs) prog w A R s ⟨ho, h⟩
noncomputable def rPop (l : Addr) (xs : List Value) (n t : Nat) (v : Value) : Rc := { code := .call (.builtin "list.pop") ⟨[.ref l, .int 0 t], []⟩, lvl := 900, pre := [(l, lstO (v :: xs) n)], post := fun _ => [lstO xs (n + 1)], new := fun _ => [], res := fun _ => .ok (.ret v) }
theorem sPop (l : Addr) (xs : List Value) (n t : Nat) (v : Value) (hs : xs.length < 900) : Spec prog w top (rPop l xs n t v) := by
  have e : Obj.mapSeq (fun x => x.eraseIdxIfInBounds 0) (lstO (v :: xs) n) = lstO xs (n + 1) := by
    simp [Obj.mapSeq, lstO, Array.eraseIdxIfInBounds]
  refine spec_upd _ l (lstO (v :: xs) n) (Obj.mapSeq fun x => x.eraseIdxIfInBounds 0) (by rw [e]; rfl) rfl (fun _ => by rw [e]; rfl) (fun _ => rfl) 0 (fun _ => .ok (.ret v)) (fun _ => rfl) fun A s _ ho R h => ?_
  refine codeAny_slotM F.slot_list_pop ⟨_, ho, rfl⟩ F.entry_list_pop (F.args_list_pop_2 _ _) ?_
  have hz : (⟨v :: xs⟩ : Array Value).size < 1000 := by simp; omega
  exact list_pop_at l ⟨v :: xs⟩ n 0 t 0 v (by decide) (by simp [seqIndex?]) (by simp) (line_big hz) prog w A R s ⟨ho, h⟩
noncomputable def rLenL (l : Addr) (xs : List Value) (n : Nat) : Rc := { code := .call (.builtin "len") ⟨[.ref l], []⟩, lvl := 900, pre := [(l, lstO xs n)], post := fun _ => [lstO xs n], new := fun _ => [], res := fun x => .ok (.ret (.int (Int.ofNat xs.length) (x.n 2 + 1))) }
theorem sLenL (l : Addr) (xs : List Value) (n : Nat) (hs : xs.length < 1000) : Spec prog w top (rLenL l xs n) := by
  refine spec_toks _ (fun _ => rfl) (fun _ => rfl) 2 (fun tk => .ok (.ret (.int (Int.ofNat xs.length) (tk + 1)))) (fun _ => rfl) fun A s _ hp R h => ?_
  have ho : s.heap.get? l = some (lstO xs n) := hp (l, lstO xs n) (.head _)
  have hT : s.TypeIs (.ref l) "list" := ⟨_, ho, rfl⟩
  have key : ∀ R' : Result → Shared → Prop, R' (.ok (.ret (.int (((⟨xs⟩ : Array Value).size : Nat) : Int) s.toks))) { s with toks := s.toks + 1 } → codeAny (model prog w) A.in1 (.call (.builtin "list.__len__") ⟨[.ref l], []⟩) R' s := fun R' h' =>
    codeAny_slotM F.slot_list_len hT F.entry_list_len (F.args_list_len_1 _) (AutoListH.list___len___list_0 l ⟨xs⟩ n prog w A.in1 R' s ⟨ho, h'⟩)
  refine codeAny_fn kind_len plain_len entry_len (args_len1 _) ?_
  unfold Builtin.«len»
  refine wpAny_bind (m := oneArg "len" _) (wpAny_pure ?_)
  refine wpAny_bind (m := callSpecial? (.ref l) (Str.ofString "__len__")) (wpAny_callSpecial?_slot (name := Str.ofString "__len__") hT F.slot_list_len (wpAny_call (key _ ?_)))
  show wpAny _ _ _ _ _ { s with toks := s.toks + 1 }
  refine wpAny_bind (wpAny_holding (wpAny_pure ?_))
  refine wpAny_bind (wpAny_letGo ?_)
  have e : (((⟨xs⟩ : Array Value).size : Nat) : Int) = (xs.length : Int) := rfl
  rw [e]
  show wpAny _ _ (if (xs.length : Int) < 0 then _ else _) _ _ _
  rw [if_neg (by omega)]
  show wpAny _ _ (if (xs.length : Int) ≥ 2 ^ 63 then _ else _) _ _ _
  rw [if_neg (by omega)]
  exact wpAny_bind (wpAny_mkInt (wpAny_pure ⟨_, rfl, h⟩))
noncomputable def rLenB (l : Addr) (xs : List Value) (n : Nat) : Rc := { code := .builtin "len" ⟨[.ref l], []⟩, lvl := 900, pre := [(l, lstO xs n)], post := fun _ => [lstO xs n], new := fun _ => [], res := fun x => .ok (.ret (.int (Int.ofNat xs.length) (x.n 2 + 1))) }
theorem sLenB (l : Addr) (xs : List Value) (n : Nat) (hs : xs.length < 1000) : Spec prog w top (rLenB l xs n) := by
  refine spec_toks _ (fun _ => rfl) (fun _ => rfl) 2 (fun tk => .ok (.ret (.int (Int.ofNat xs.length) (tk + 1)))) (fun _ => rfl) fun A s _ hp R h => ?_
  have ho : s.heap.get? l = some (lstO xs n) := hp (l, lstO xs n) (.head _)
  have hT : s.TypeIs (.ref l) "list" := ⟨_, ho, rfl⟩
  refine codeAny_builtin entry_len ?_
  rw [Around.under_plainId plain_len _]
  have key : ∀ R' : Result → Shared → Prop, R' (.ok (.ret (.int (((⟨xs⟩ : Array Value).size : Nat) : Int) s.toks))) { s with toks := s.toks + 1 } → codeAny (model prog w) A.in1 (.call (.builtin "list.__len__") ⟨[.ref l], []⟩) R' s := fun R' h' =>
    codeAny_slotM F.slot_list_len hT F.entry_list_len (F.args_list_len_1 _) (AutoListH.list___len___list_0 l ⟨xs⟩ n prog w A.in1 R' s ⟨ho, h'⟩)
  unfold Builtin.«len»
  refine wpAny_bind (m := oneArg "len" _) (wpAny_pure ?_)
  refine wpAny_bind (m := callSpecial? (.ref l) (Str.ofString "__len__")) (wpAny_callSpecial?_slot (name := Str.ofString "__len__") hT F.slot_list_len (wpAny_call (key _ ?_)))
  show wpAny _ _ _ _ _ { s with toks := s.toks + 1 }
  refine wpAny_bind (wpAny_holding (wpAny_pure ?_))
  refine wpAny_bind (wpAny_letGo ?_)
  have e : (((⟨xs⟩ : Array Value).size : Nat) : Int) = (xs.length : Int) := rfl
  rw [e]
  show wpAny _ _ (if (xs.length : Int) < 0 then _ else _) _ _ _
  rw [if_neg (by omega)]
  show wpAny _ _ (if (xs.length : Int) ≥ 2 ^ 63 then _ else _) _ _ _
  rw [if_neg (by omega)]
  exact wpAny_bind (wpAny_mkInt (wpAny_pure h))
/-- the k-th of a list, k not below nothing -/
noncomputable def rItem (l : Addr) (xs : List Value) (n : Nat) (k : Int) (t : Nat) (v : Value) : Rc := { code := .call (.builtin "list.__getitem__") ⟨[.ref l, .int k t], []⟩, lvl := 900, pre := [(l, lstO xs n)], post := fun _ => [lstO xs n], new := fun _ => [], res := fun _ => .ok (.ret v) }
theorem sItem (l : Addr) (xs : List Value) (n : Nat) (k : Int) (t : Nat) (v : Value) (h0 : 0 ≤ k) (h1 : k < 1000) (hv : xs[k.toNat]? = some v) : Spec prog w top (rItem l xs n k t v) := by
  refine spec_toks _ (fun _ => rfl) (fun _ => rfl) 0 (fun _ => .ok (.ret v)) (fun _ => rfl) fun A s _ hp R h => ?_
  have ho : s.heap.get? l = some (lstO xs n) := hp (l, lstO xs n) (.head _)
  have hd : (lstO xs n).data = .seq ⟨xs⟩ n := rfl
  refine codeAny_slotM F.slot_list_getitem ⟨_, ho, rfl⟩ F.entry_list_getitem (F.args_list_getitem_2 _ _) ?_
  show wpAny _ _ (Builtin.List.listSubscript? (.int k t) >>= _) _ _ s
  refine wpAny_bind (wpAny_listSubscript_int (fitsIndex_of h0 (by omega)) ?_)
  obtain ⟨j, rfl⟩ := Int.eq_ofNat_of_zero_le h0
  have hx' : (⟨xs⟩ : Array Value)[j]? = some v := by simpa using hv
  show wpAny _ _ ((seqItemAt l j >>= fun r => pure (r.map (j, ·))) >>= _) _ _ s
  refine wpAny_bind (wpAny_bind (wpAny_seqItemAt ho hd (wpAny_pure ?_)))
  rw [hx']
  exact wpAny_pure h
/-- the last of a list -/
noncomputable def rLast (l : Addr) (xs : List Value) (n : Nat) (t : Nat) (v : Value) : Rc := { code := .call (.builtin "list.__getitem__") ⟨[.ref l, .int (-1) t], []⟩, lvl := 900, pre := [(l, lstO xs n)], post := fun _ => [lstO xs n], new := fun _ => [], res := fun _ => .ok (.ret v) }
theorem sLast (l : Addr) (xs : List Value) (n : Nat) (t : Nat) (v : Value) (hv : xs.getLast? = some v) : Spec prog w top (rLast l xs n t v) := by
  refine spec_toks _ (fun _ => rfl) (fun _ => rfl) 0 (fun _ => .ok (.ret v)) (fun _ => rfl) fun A s _ hp R h => ?_
  have ho : s.heap.get? l = some (lstO xs n) := hp (l, lstO xs n) (.head _)
  have hd : (lstO xs n).data = .seq ⟨xs⟩ n := rfl
  have hl : 0 < xs.length := by cases xs <;> simp at hv ⊢
  refine codeAny_slotM F.slot_list_getitem ⟨_, ho, rfl⟩ F.entry_list_getitem (F.args_list_getitem_2 _ _) ?_
  show wpAny _ _ (Builtin.List.listSubscript? (.int (-1) t) >>= _) _ _ s
  refine wpAny_bind (wpAny_listSubscript_int (fitsIndex_neg (by decide) (by decide)) ?_)
  have hidx : seqIndex? (-1) (⟨xs⟩ : Array Value).size = some (xs.length - 1) := by
    rw [PySem.seqIndex_neg (by decide) (by simp; omega)]
    simp; omega
  show wpAny _ _ ((Builtin.List.listItems (.ref l) >>= fun ys => pure ((seqIndex? (-1) ys.size).bind fun i => ys[i]?.map (i, ·))) >>= _) _ _ s
  refine wpAny_bind (wpAny_bind ?_)
  show wpAny _ _ (seqItems? (.ref l) >>= _) _ _ s
  refine wpAny_bind (wpAny_seqItems ho hd (wpAny_pure (wpAny_pure ?_)))
  rw [hidx]
  have hx : (⟨xs⟩ : Array Value)[xs.length - 1]? = some v := by
    rw [← hv, List.getLast?_eq_getElem?]; simp
  simp only [Option.bind_some, hx, Option.map_some]
  exact wpAny_pure h
noncomputable def rAdd (a b : Addr) (xs ys : List Value) (n m : Nat) : Rc := { code := .call (.builtin "list.__add__") ⟨[.ref a, .ref b], []⟩, lvl := 900, pre := [(a, lstO xs n), (b, lstO ys m)], post := fun _ => [lstO xs n, lstO ys m], new := fun z => [(z.n 2, lstO (xs ++ ys) 0)], res := fun z => .ok (.ret (.ref (z.n 2))) }
theorem sAdd (a b : Addr) (xs ys : List Value) (n m : Nat) (hx : xs.length < 400) (hy : ys.length < 400) : Spec prog w top (rAdd a b xs ys n m) := by
  refine spec_mk _ (lstO (xs ++ ys) 0) rfl (fun _ => rfl) (fun _ => rfl) (fun _ => rfl) 0 fun A s _ hp R h => ?_
  have ha : s.heap.get? a = some (lstO xs n) := hp _ (.head _)
  have hb : s.heap.get? b = some (lstO ys m) := hp _ (.tail _ (.head _))
  refine codeAny_slotM F.slot_list_add ⟨_, ha, rfl⟩ F.entry_list_add (F.args_list_add_2 _ _) ?_
  refine AutoSeq1.list___add___list_list_0 a ⟨xs⟩ n b ⟨ys⟩ m (line_big (by simp; omega)) prog w A R s ⟨ha, hb, ?_⟩
  have e : ({ cls := Value.type "list", data := Data.seq ((⟨xs⟩ : Array Value) ++ ⟨ys⟩) } : Obj) = lstO (xs ++ ys) 0 := by simp [lstO]
  rw [e]; exact h
noncomputable def txts (xs : List (Str × Nat)) : List Value := xs.map fun q => .str q.1 q.2
noncomputable def rIndex (l : Addr) (xs : List (Str × Nat)) (n : Nat) (c : Str) (t : Nat) (j : Nat) : Rc := { code := .call (.builtin "list.index") ⟨[.ref l, .str c t], []⟩, lvl := 900, pre := [(l, lstO (txts xs) n)], post := fun _ => [lstO (txts xs) n], new := fun _ => [], res := fun z => .ok (.ret (.int (Int.ofNat j) (z.n 2))) }
theorem sIndex (l : Addr) (xs : List (Str × Nat)) (n : Nat) (c : Str) (t : Nat) (j : Nat) (hl : xs.length < 1000) (hj : (xs[j]?).map (·.1) = some c) (hno : ∀ m q, m < j → xs[m]? = some q → (q.1 == c) = false) : Spec prog w top (rIndex l xs n c t j) := by
  refine spec_toks _ (fun _ => rfl) (fun _ => rfl) 1 (fun tk => .ok (.ret (.int (Int.ofNat j) tk))) (fun _ => rfl) fun A s _ hp R h => ?_
  have ho := hp _ (.head _)
  obtain ⟨q, hq, rfl⟩ := Option.map_eq_some_iff.mp hj
  have hlt := (List.getElem?_eq_some_iff.mp hq).1
  refine codeAny_slotM F.slot_list_index ⟨_, ho, rfl⟩ F.entry_list_index (F.args_list_index_2 _ _) ?_
  refine list_index l ⟨txts xs⟩ n (.str q.1 t) (fun v => match v with | .str x _ => x == q.1 | _ => false) (fun y hy => ?_) j (by simpa [txts] using hlt) (by omega) ?_ (fun m hm hmj => ?_) prog w A R s ⟨ho, h⟩
  · have hy' : y ∈ xs.map fun q => Value.str q.1 q.2 := by simpa [txts] using hy
    obtain ⟨p, _, rfl⟩ := List.mem_map.mp hy'
    have := SeqRoads2.EqGives.str p.1 q.1 p.2 t
    rw [SeqAt.str_beq] at this
    exact this
  · have : xs[j] = q := (List.getElem?_eq_some_iff.mp hq).2
    simp [txts, this]
  · have hm' : m < xs.length := by simpa [txts] using hm
    have := hno m xs[m] hmj (List.getElem?_eq_getElem hm')
    simpa [txts] using this
/-- two lists of the same texts -/
noncomputable def rEqL (a b : Addr) (xs ys : List (Str × Nat)) (n m : Nat) : Rc := { code := .call (.builtin "list.__eq__") ⟨[.ref a, .ref b], []⟩, lvl := 900, pre := [(a, lstO (txts xs) n), (b, lstO (txts ys) m)], post := fun _ => [lstO (txts xs) n, lstO (txts ys) m], new := fun _ => [], res := fun z => .ok (.ret (.bool true)) }
theorem sEqL (a b : Addr) (xs ys : List (Str × Nat)) (n m : Nat) (h : xs.map (·.1) = ys.map (·.1)) : Spec prog w top (rEqL a b xs ys n m) := by
  refine spec_toks _ (fun _ => rfl) (fun _ => rfl) 0 (fun _ => .ok (.ret (.bool true))) (fun _ => rfl) fun A s _ hp R hR => ?_
  have ha := hp _ (.head _)
  have hb := hp _ (.tail _ (.head _))
  have hlen : xs.length = ys.length := by have := congrArg List.length h; simpa using this
  refine codeAny_slotM F.slot_list_eq ⟨_, ha, rfl⟩ F.entry_list_eq (F.args_list_eq_2 _ _) ?_
  refine list_eqAt a b ⟨txts xs⟩ ⟨txts ys⟩ n m none none #[] #[] (by simpa [txts] using hlen) (fun _ => true) prog w A R s ⟨ha, hb, fun j h1 h2 => ?_, ?_⟩
  · have h1' : j < xs.length := by simpa [txts] using h1
    have h2' : j < ys.length := by simpa [txts] using h2
    have e : xs[j].1 = ys[j].1 := by
      have := congrArg (fun l => l[j]?) h
      simpa [h1', h2'] using this
    have := EqAt.str_str (A := A.in1) (s := s) xs[j].1 xs[j].2 ys[j].1 ys[j].2
    rw [e] at this
    simp only [txts, List.getElem_toArray, List.getElem_map]
    rw [e]
    simpa using this
  · have : (List.range (⟨txts xs⟩ : Array Value).size).all (fun _ => true) = true := by simp
    rw [this]; exact hR
noncomputable def slcO (a b c : Value) : Obj := { cls := .type "slice", data := .fields ⟨[a, b, c]⟩ }
/-- a slice of a list -/
noncomputable def rSlice (l sl : Addr) (xs ys : List Value) (n : Nat) (vl vu vs : Value) : Rc := { code := .call (.builtin "list.__getitem__") ⟨[.ref l, .ref sl], []⟩, lvl := 900, pre := [(l, lstO xs n), (sl, slcO vl vu vs)], post := fun _ => [lstO xs n, slcO vl vu vs], new := fun z => [(z.n 2, lstO ys 0)], res := fun z => .ok (.ret (.ref (z.n 2))) }
theorem sSlice (l sl : Addr) (xs ys : List Value) (n : Nat) (vl vu vs : Value) (lo hi st : Option Int) (pl : IsPart vl lo) (pu : IsPart vu hi) (ps : IsPart vs st) (h0 : st ≠ some 0) (hx : xs.length < 1000) (hy : slicePick ⟨xs⟩ lo hi st = ⟨ys⟩) : Spec prog w top (rSlice l sl xs ys n vl vu vs) := by
  refine spec_mk _ (lstO ys 0) rfl (fun _ => rfl) (fun _ => rfl) (fun _ => rfl) 0 fun A s _ hp R h => ?_
  have ho : s.heap.get? l = some (lstO xs n) := hp _ (.head _)
  have hos : s.heap.get? sl = some (slcO vl vu vs) := hp _ (.tail _ (.head _))
  have hd : (lstO xs n).data = .seq ⟨xs⟩ n := rfl
  have hds : (slcO vl vu vs).data = .fields ⟨[vl, vu, vs]⟩ := rfl
  have hTs : s.TypeIs (.ref sl) "slice" := ⟨_, hos, rfl⟩
  have h' : R (.ok (.ret (.ref s.heap.objs.size))) { s with heap := s.heap.push { cls := .type "list", data := .seq (slicePick ⟨xs⟩ lo hi st) } } := by
    rw [hy]; exact h
  have hsz : (slicePick ⟨xs⟩ lo hi st).size ≤ sizeLine := Nat.le_trans (slicePick_size_le ⟨xs⟩ lo hi st) (line_big hx)
  refine codeAny_slotM F.slot_list_getitem ⟨_, ho, rfl⟩ F.entry_list_getitem (F.args_list_getitem_2 _ _) ?_
  show wpAny _ _ (Builtin.List.listSubscript? (.ref sl) >>= _) _ _ s
  refine wpAny_bind ?_
  unfold Builtin.List.listSubscript?
  refine wpAny_bind (wpAny_specialOf hTs slice_no_index ?_)
  simp only [Option.isNone_none, if_true]
  refine wpAny_pure ?_
  show wpAny _ _ (typeOf (.ref sl) >>= _) _ _ s
  refine wpAny_bind (wpAny_typeOf hTs ?_)
  rw [if_neg (by decide)]
  rw [listSliceParts_eq]
  have hstep : ¬ ((rawPart st == rawInt 0) = true) := by
    cases st with
    | none => exact Bool.false_ne_true
    | some c =>
      intro hh
      have : c = 0 := by simpa [rawPart, rawInt] using hh
      exact h0 (by rw [this])
  refine wpAny_bind (wpAny_bind (wpAny_field hos hds (x := vs) rfl (wpAny_bind (wpAny_listPart ps ?_))))
  rw [if_neg hstep]
  refine wpAny_bind (wpAny_field hos hds (x := vl) rfl (wpAny_bind (wpAny_listPart pl ?_)))
  refine wpAny_bind (wpAny_field hos hds (x := vu) rfl (wpAny_bind (wpAny_listPart pu (wpAny_pure ?_))))
  refine wpAny_bind (m := Builtin.List.listItems (.ref l)) ?_
  unfold Builtin.List.listItems
  refine wpAny_bind (wpAny_seqItems ho hd (wpAny_pure ?_))
  refine wpAny_bind (wpAny_of_eq (sliceIndices_raw lo hi st _ h0) ?_)
  exact wpAny_bind (wpAny_newObj_type (wpAny_pure h') hsz)
theorem sFrom (l sl : Addr) (xs : List Value) (n a t : Nat) (hx : xs.length < 1000) : Spec prog w top (rSlice l sl xs (xs.drop a) n (.int (Int.ofNat a) t) .none .none) :=
  sSlice prog w top l sl xs _ n _ _ _ (some a) none none (.int _ _) .none .none (by simp) hx (by rw [slicePick_from'])
theorem sUpto (l sl : Addr) (xs : List Value) (n b t : Nat) (hx : xs.length < 1000) : Spec prog w top (rSlice l sl xs (xs.take b) n .none (.int (Int.ofNat b) t) .none) :=
  sSlice prog w top l sl xs _ n _ _ _ none (some b) none .none (.int _ _) .none (by simp) hx (by rw [slicePick_upto'])
theorem range_back (n : Nat) : sliceRange ((n : Int) - 1) (-1) (-1) = (List.range n).map (n - 1 - ·) := by
  unfold sliceRange
  rw [if_neg (by decide)]
  have : (if (n : Int) - 1 > -1 then ((n : Int) - 1 - (-1) - (-1) - 1) / (-(-1)) else 0).toNat = n := by
    by_cases h : n = 0
    · subst h; rfl
    · rw [if_pos (by omega)]
      show (((n : Int) - 1 - (-1) - (-1) - 1) / 1).toNat = n
      rw [Int.ediv_one]; omega
  dsimp only
  rw [this]
  refine List.map_congr_left fun k hk => ?_
  have := List.mem_range.mp hk
  omega
theorem pick_back (xs : List Value) : slicePick ⟨xs⟩ none none (some (-1)) = ⟨xs.reverse⟩ := by
  unfold slicePick
  have e : sliceBounds none none (some (-1)) (⟨xs⟩ : Array Value).size = ((xs.length : Int) - 1, -1, -1) := rfl
  rw [e]
  show ((sliceRange ((xs.length : Int) - 1) (-1) (-1)).filterMap _).toArray = _
  rw [range_back]
  have key : ∀ n, n ≤ xs.length → (List.range n).filterMap ((fun i => (⟨xs⟩ : Array Value)[i]?) ∘ fun x => xs.length - 1 - x) = xs.reverse.take n := by
    intro n
    induction n with
    | zero => intro _; rfl
    | succ n ih =>
      intro hn
      rw [List.range_succ, List.filterMap_append, ih (by omega)]
      have : xs[xs.length - 1 - n]? = some xs[xs.length - 1 - n] := List.getElem?_eq_getElem (by omega)
      rw [List.take_add_one]
      congr 1
      simp [this, List.getElem?_reverse (show n < xs.length by omega)]
  have e2 := key _ (Nat.le_refl _)
  rw [List.take_of_length_le (by simp)] at e2
  rw [List.filterMap_map]
  exact congrArg List.toArray e2
theorem sBack (l sl : Addr) (xs : List Value) (n t : Nat) (hx : xs.length < 1000) : Spec prog w top (rSlice l sl xs xs.reverse n .none .none (.int (-1) t)) :=
  sSlice prog w top l sl xs _ n _ _ _ none none (some (-1)) .none .none (.int _ _) (by simp) hx (pick_back xs)
end
end Mine
end
end
section
open PySem PySem.W PySem.W.X PyProof.Rows PySem.Calls PySem.MeetsSeq PySem.SeqAt
noncomputable section
namespace Mine
noncomputable def rBin (id : String) (a b : Int) (t u : Nat) (v : Int) : Rc := noPre (.call (.builtin id) ⟨[.int a t, .int b u], []⟩) fun z => .int v (z.n 2)
section
variable (prog : Program) (w : World) (top : KT)
theorem sBin {id : String} {name : Str} {B : Builtin} {a b : Int} {t u : Nat} {v : Int} (slot : Slot "int" name id) (entry : entryFor table id = some B) (args : argsOk id ⟨[.int a t, .int b u], []⟩) (g : Gives (B ⟨[.int a t, .int b u], []⟩) (.int v)) : Spec prog w top (rBin id a b t u v) := by
  refine spec_toks _ (fun _ => rfl) (fun _ => rfl) 1 (fun tk => .ok (.ret (.int v tk))) (fun _ => rfl) fun A s _ _ R hR => ?_
  exact codeAny_call_builtin slot.plain entry (slot.check _ _ _ _ _ _ _ _ (typeIs_int s a t) args (g prog w A R s hR))
theorem sMulI (a b : Int) (t u : Nat) (v : Int) (h : a * b = v) (hm : IntMulOk a b) : Spec prog w top (rBin "int.__mul__" a b t u v) := by
  subst h; exact sBin prog w top F.slot_int_mul F.entry_int_mul (F.args_int_mul_2 _ _) (AutoIntG1.int___mul___int_int_0 a t b u hm)
theorem sSubI (a b : Int) (t u : Nat) (v : Int) (h : a - b = v) : Spec prog w top (rBin "int.__sub__" a b t u v) := by
  subst h; exact sBin prog w top F.slot_int_sub F.entry_int_sub (F.args_int_sub_2 _ _) (AutoIntG9.int___sub___int_int_0 a t b u)
theorem sModI (a b : Int) (t u : Nat) (v : Int) (hb : b ≠ 0) (h : a.fmod b = v) : Spec prog w top (rBin "int.__mod__" a b t u v) := by
  subst h; exact sBin prog w top F.slot_int_mod F.entry_int_mod (F.args_int_mod_2 _ _) (AutoIntG6.int___mod___int_int_1 a t b u (by simpa using hb))
theorem sDivI (a b : Int) (t u : Nat) (v : Int) (hb : b ≠ 0) (hd : Builtin.divisionGoesByPylong a b = false) (h : a.fdiv b = v) : Spec prog w top (rBin "int.__floordiv__" a b t u v) := by
  subst h; exact sBin prog w top F.slot_int_floordiv F.entry_int_floordiv (F.args_int_floordiv_2 _ _) (AutoIntG4.int___floordiv___int_int_1 a t b u (by simpa using hb) (by rw [hd]; decide))
noncomputable def rSeq (x y : Str) (t u : Nat) (r : Bool) : Rc := noPre (.call (.builtin "str.__eq__") ⟨[.str x t, .str y u], []⟩) fun _ => .bool r
theorem sSeq (x y : Str) (t u : Nat) (r : Bool) (h : (x == y) = r) : Spec prog w top (rSeq x y t u r) := by
  refine spec_toks _ (fun _ => rfl) (fun _ => rfl) 0 (fun tk => .ok (.ret (.bool r))) (fun _ => rfl) fun A s _ _ R hR => ?_
  refine codeAny_call_builtin F.slot_str_eq.plain F.entry_str_eq (F.slot_str_eq.check _ _ _ _ _ _ _ _ (typeIs_str s x t) (F.args_str_eq_2 _ _) ?_)
  rw [← SeqAt.str_beq] at h
  exact gives_str_eq x y t u prog w A R s (by rw [h]; exact hR)
end
end Mine
end
end
section
open PySem PySem.W PySem.W.X PyProof.Rows PySem.Calls
noncomputable section
namespace Mine
/-! a family of checks, one for each length -/
noncomputable def mapN {α : Type} (f : Nat → α) (n : Nat) : List α := Nat.rec (motive := fun _ => List α) [] (fun k ih => f k :: ih) n
theorem mapN_eq {α : Type} {f g : Nat → α} : ∀ {n : Nat}, mapN f n = mapN g n → ∀ k, k < n → f k = g k
  | 0, _, k, h => absurd h (Nat.not_lt_zero _)
  | n + 1, e, k, h => by
    have e' : f n :: mapN f n = g n :: mapN g n := e
    injection e' with e1 e2
    rcases Nat.lt_succ_iff_lt_or_eq.mp h with h | rfl
    · exact mapN_eq e2 k h
    · exact e1
noncomputable def ChkN (P' : Params) (p : Program) (top : KT) (N fuel : Nat) (r : Nat → Rc) (o : Nat) (R : Nat → Nat → Rcs) (is : List Nat) (X : WX) : Prop :=
  ∀ m tk xs, mapN (fun k => lhs (runP P' p top fuel (r k) o R xs m tk) is) N = mapN (fun k => rhs (runP P' p top fuel (r k) o R xs m tk) (fun n t led => want (r k) (X m tk xs n t led))) N
theorem ChkN.at {P' : Params} {p : Program} {top : KT} {N fuel : Nat} {r : Nat → Rc} {o : Nat} {R : Nat → Nat → Rcs} {is : List Nat} {X : WX} (h : ChkN P' p top N fuel r o R is X) (k : Nat) (hk : k < N) : ChkP P' p top fuel (r k) o R is X :=
  fun m tk xs => mapN_eq (h m tk xs) k hk
noncomputable def valsV (V : Nat → Value) (n : Nat) : List Value := Nat.rec (motive := fun _ => (Nat → Value) → List Value) (fun _ => []) (fun _ ih V => V 0 :: ih (fun i => V (i + 1))) n V
theorem valsV_of : ∀ xs : List Value, valsV (fun i => xs.getD i .none) xs.length = xs
  | [] => rfl
  | x :: xs => by
    show x :: valsV (fun i => (x :: xs).getD (i + 1) .none) xs.length = _
    have : (fun i => (x :: xs).getD (i + 1) .none) = fun i => xs.getD i .none := by funext i; simp
    rw [this, valsV_of xs]
/-! deques -/
noncomputable def dqO (st : Int) (xs : List Value) : Obj := { cls := .type "collections.deque", data := .fields ⟨.none :: .int st 0 :: xs⟩ }
noncomputable def rDLen (a : Addr) (st : Int) (xs : List Value) : Rc := { code := .builtin "len" ⟨[.ref a], []⟩, lvl := 890, pre := [(a, dqO st xs)], post := fun _ => [dqO st xs], new := fun _ => [], res := fun z => .ok (.ret (.int (Int.ofNat xs.length) (z.n 2))) }
noncomputable def rDPop (a : Addr) (st : Int) (s : Str) (t : Nat) (xs : List Value) : Rc := { code := .call (.builtin "collections.deque.popleft") ⟨[.ref a], []⟩, lvl := 890, pre := [(a, dqO st (.str s t :: xs))], post := fun _ => [dqO (st + 1) xs], new := fun _ => [], res := fun z => .ok (.ret (.str s t)) }
noncomputable def rDApp (a : Addr) (st : Int) (s : Str) (t : Nat) (xs : List Value) : Rc := { code := .call (.builtin "collections.deque.appendleft") ⟨[.ref a, .str s t], []⟩, lvl := 890, pre := [(a, dqO st xs)], post := fun _ => [dqO (st + 1) (.str s t :: xs)], new := fun _ => [], res := fun z => .ok (.ret .none) }
noncomputable def nilR (m tk : Nat) : Rcs := .nil
noncomputable def rDLen3 (a : Addr) (st : Int) (V : Nat → Value) : Rc := rDLen a st (valsV V 3)
noncomputable def rDLen3R (a : Addr) (st : Int) (V : Nat → Value) (m tk : Nat) : Rcs := .nil
noncomputable def rDPop3 (a : Addr) (st : Int) (s : Str) (t : Nat) (V : Nat → Value) : Rc := rDPop a st s t (valsV V 3)
noncomputable def rDPop3R (a : Addr) (st : Int) (s : Str) (t : Nat) (V : Nat → Value) (m tk : Nat) : Rcs := .nil
noncomputable def rDApp3 (a : Addr) (st : Int) (s : Str) (t : Nat) (V : Nat → Value) : Rc := rDApp a st s t (valsV V 3)
noncomputable def rDApp3R (a : Addr) (st : Int) (s : Str) (t : Nat) (V : Nat → Value) (m tk : Nat) : Rcs := .nil
end Mine
end
end
section
open PySem PySem.W PySem.W.X PyProof.Rows PySem.Calls PySem.MeetsSeq PySem.SeqAt
noncomputable section
namespace Mine
theorem spec_updH {prog : Program} {w : World} {top : KT} (r : Rc) (l : Addr) (o o' : Obj) (H : Heap → Heap) (hsz : ∀ h, (H h).objs.size = h.objs.size) (hself : ∀ h, h.get? l = some o → (H h).get? l = some o') (hoth : ∀ h b, l ≠ b → (H h).get? b = h.get? b)
    (hpre : r.pre = [(l, o)]) (hp : ∀ x, r.post x = [o']) (hn : ∀ x, r.new x = []) (k : Nat) (val : Nat → Result) (hr : ∀ x, r.res x = val (x.n 2))
    (h : ∀ A s, Fine A r.lvl → s.heap.get? l = some o → ∀ R : Result → Shared → Prop, R (val s.toks) { s with heap := H s.heap, toks := s.toks + k } → codeAny (model prog w) A r.code R s) : Spec prog w top r := by
  intro A fA ffr s tp hpre' nd
  have ho : s.heap.get? l = some o := (hpre' (l, o) (by rw [hpre]; exact .head _)).1
  refine h A s fA ho _ ⟨xx s.heap.objs.size (s.toks + k) s.toks, (hr (xx s.heap.objs.size (s.toks + k) s.toks)).symm, rfl, rfl, rfl, rfl, hsz _, Nat.le_refl _, by rw [hp, hpre]; rfl, fun q hq => ?_, fun b ob e nb => ?_, fun p hm => by (rw [hn] at hm; cases hm), by rw [hn]; exact List.nodup_nil⟩
  · rw [hp, hpre] at hq
    rcases List.mem_singleton.mp (show q ∈ [((l, o), o')] from hq) with rfl
    exact hself _ ho
  · show (H s.heap).get? b = some ob
    rw [hoth _ _ (nb (l, o) (by rw [hpre]; exact .head _))]; exact e
noncomputable def rgO (t0 : Nat) (n : Nat) (t1 t2 : Nat) : Obj := { cls := .type "range", data := .fields ⟨[.int 0 t0, .int (Int.ofNat n) t1, .int 1 t2]⟩ }
noncomputable def rgItO (c r : Nat) : Obj := { cls := .type "range_iterator", data := .fields ⟨[.int (Int.ofNat c) 0, .int (Int.ofNat r) 0, .int 1 0]⟩ }
noncomputable def rRgI (rg : Addr) (t0 n t1 t2 : Nat) : Rc := { code := .call (.builtin "range.__iter__") ⟨[.ref rg], []⟩, lvl := 900, pre := [(rg, rgO t0 n t1 t2)], post := fun _ => [rgO t0 n t1 t2], new := fun z => [(z.n 2, rgItO 0 n)], res := fun z => .ok (.ret (.ref (z.n 2))) }
noncomputable def rRgN (it : Addr) (c r : Nat) : Rc := { code := .call (.builtin "range_iterator.__next__") ⟨[.ref it], []⟩, lvl := 900, pre := [(it, rgItO c (r + 1))], post := fun _ => [rgItO (c + 1) r], new := fun z => [], res := fun z => .ok (.ret (.int (Int.ofNat c) (z.n 2))) }
section
variable (prog : Program) (w : World) (top : KT)
theorem sRgI (rg : Addr) (t0 n t1 t2 : Nat) (hn : n < 1000) : Spec prog w top (rRgI rg t0 n t1 t2) := by
  have e : Builtin.Range.rangeSize 0 (Int.ofNat n) 1 = Int.ofNat n := by
    unfold Builtin.Range.rangeSize
    show (if (1 : Int) > 0 then (if (0 : Int) < (n : Int) then ((n : Int) - 0 - 1) / 1 + 1 else 0) else _) = (n : Int)
    rw [if_pos (by decide)]
    by_cases h : (0 : Int) < n
    · rw [if_pos h, Int.ediv_one]; omega
    · rw [if_neg h]; omega
  have f : Builtin.Range.rangeFitsLong (Int.ofNat n) = true := by
    unfold Builtin.Range.rangeFitsLong
    show (decide (-(2 ^ 63) ≤ (n : Int)) && decide ((n : Int) < 2 ^ 63)) = true
    simp only [Bool.and_eq_true, decide_eq_true_eq]; omega
  have f0 : Builtin.Range.rangeFitsLong 0 = true := by decide
  have f1 : Builtin.Range.rangeFitsLong 1 = true := by decide
  have big : (Builtin.Range.rangeFitsLong 0 && Builtin.Range.rangeFitsLong (Int.ofNat n) && Builtin.Range.rangeFitsLong 1 && Builtin.Range.rangeFitsLong (Builtin.Range.rangeSize 0 (Int.ofNat n) 1) && (Builtin.Range.rangeSize 0 (Int.ofNat n) 1 == 0 || if (1 : Int) > 0 then Builtin.Range.rangeFitsLong (Int.ofNat n + (1 - 1)) else Builtin.Range.rangeFitsLong (Int.ofNat n + (1 + 1)))) = true := by
    rw [e, f, f0, f1, if_pos (by decide), show Int.ofNat n + (1 - 1) = Int.ofNat n by omega, f]; simp
  refine spec_mk _ (rgItO 0 n) rfl (fun _ => rfl) (fun _ => rfl) (fun _ => rfl) 0 fun A s _ hp R h => ?_
  have ho : s.heap.get? rg = some (rgO t0 n t1 t2) := hp _ (.head _)
  refine codeAny_slotM F.slot_range_iter ⟨_, ho, rfl⟩ F.entry_range_iter (F.args_range_iter_1 _) ?_
  refine AutoRange.range___iter___range_1 rg 0 (Int.ofNat n) 1 t0 t1 t2 (by rw [big]; decide) prog w A R s ⟨ho, ?_⟩
  rw [big, e]
  exact h
theorem sRgN (it : Addr) (c r : Nat) : Spec prog w top (rRgN it c r) := by
  have e : (((rgItO c (r + 1)).mapFields fun x => x.setIfInBounds 0 (rawInt (Int.ofNat c + 1))).mapFields fun x => x.setIfInBounds 1 (rawInt (Int.ofNat (r + 1) - 1))) = rgItO (c + 1) r := by
    have h1 : Int.ofNat (r + 1) - 1 = Int.ofNat r := by show ((r + 1 : Nat) : Int) - 1 = r; omega
    rw [h1]
    simp [Obj.mapFields, rgItO, rawInt]
  refine spec_updH _ it (rgItO c (r + 1)) (rgItO (c + 1) r) (fun h => (h.update it (Obj.mapFields fun x => x.setIfInBounds 0 (rawInt (Int.ofNat c + 1)))).update it (Obj.mapFields fun x => x.setIfInBounds 1 (rawInt (Int.ofNat (r + 1) - 1))))
    (fun h => by rw [Heap.size_after_update, Heap.size_after_update]) (fun h ho => ?_) (fun h b nb => by rw [Heap.get?_update_other _ _ nb, Heap.get?_update_other _ _ nb]) rfl (fun _ => rfl) (fun _ => rfl) 1 (fun tk => .ok (.ret (.int (Int.ofNat c) tk))) (fun _ => rfl) fun A s _ ho R h => ?_
  · rw [← e]
    refine Heap.get?_update_self _ (Heap.get?_update_self _ ho ?_) ?_ <;> rfl
  · refine codeAny_slotM F.slot_range_iterator_next ⟨_, ho, rfl⟩ F.entry_range_iterator_next (F.args_range_iterator_next_1 _) ?_
    exact AutoRange.range_iterator___next___range_iterator_1 it (Int.ofNat c) (Int.ofNat (r + 1)) 1 (by show ¬ ((r + 1 : Nat) : Int) ≤ 0; omega) prog w A R s ⟨ho, h⟩
end
end Mine
end
end
section
open PySem PySem.W PySem.W.X PyProof.Rows PySem.Calls PySem.MeetsSeq PySem.SeqAt
noncomputable section
namespace Mine
/-- the first of two objects changed -/
theorem spec_upd2 {prog : Program} {w : World} {top : KT} (r : Rc) (l b : Addr) (o o' ob : Obj) (f : Obj → Obj) (hfo : f o = o') (hf : o'.isFreed = false)
    (hpre : r.pre = [(l, o), (b, ob)]) (hp : ∀ x, r.post x = [o', ob]) (hn : ∀ x, r.new x = []) (k : Nat) (val : Nat → Result) (hr : ∀ x, r.res x = val (x.n 2))
    (h : ∀ A s, Fine A r.lvl → s.heap.get? l = some o → s.heap.get? b = some ob → ∀ R : Result → Shared → Prop, R (val s.toks) { s with heap := s.heap.update l f, toks := s.toks + k } → codeAny (model prog w) A r.code R s) : Spec prog w top r := by
  intro A fA ffr s tp hpre' nd
  have ho : s.heap.get? l = some o := (hpre' (l, o) (by rw [hpre]; exact .head _)).1
  have hb : s.heap.get? b = some ob := (hpre' (b, ob) (by rw [hpre]; exact .tail _ (.head _))).1
  have hlb : l ≠ b := by
    rw [hpre] at nd
    simpa using nd
  refine h A s fA ho hb _ ⟨xx s.heap.objs.size (s.toks + k) s.toks, (hr (xx s.heap.objs.size (s.toks + k) s.toks)).symm, rfl, rfl, rfl, rfl, Heap.size_after_update .., Nat.le_refl _, by rw [hp, hpre]; rfl, fun q hq => ?_, fun b' ob' e nb => ?_, fun p hm => by (rw [hn] at hm; cases hm), by rw [hn]; exact List.nodup_nil⟩
  · rw [hp, hpre] at hq
    have hq' : q ∈ [((l, o), o'), ((b, ob), ob)] := hq
    rcases List.mem_cons.mp hq' with rfl | hq'
    · show (s.heap.update l f).get? l = some o'
      rw [Heap.get?_update_self f ho (by rw [hfo]; exact hf), hfo]
    · rcases List.mem_singleton.mp hq' with rfl
      show (s.heap.update l f).get? b = some ob
      rw [Heap.get?_update_other _ f hlb]; exact hb
  · show (s.heap.update l f).get? b' = some ob'
    rw [Heap.get?_update_other _ f (nb (l, o) (by rw [hpre]; exact .head _))]; exact e
noncomputable def liO (l : Addr) (i : Nat) : Obj := { cls := .type "list_iterator", data := .fields ⟨[.ref l, .int (Int.ofNat i) 0]⟩ }
noncomputable def liN (i : Nat) : Obj := { cls := .type "list_iterator", data := .fields ⟨[.none, .int (Int.ofNat i) 0]⟩ }
noncomputable def stopO (t : Addr) : Obj := { cls := .type "StopIteration", data := .fields ⟨[.ref t, .none, .none, .none, .bool false, .none]⟩ }
noncomputable def rLiN (it l : Addr) (xs : List Value) (n i : Nat) (v : Value) : Rc := { code := .call (.builtin "list_iterator.__next__") ⟨[.ref it], []⟩, lvl := 890, pre := [(it, liO l i), (l, lstO xs n)], post := fun _ => [liO l (i + 1), lstO xs n], new := fun z => [], res := fun z => .ok (.ret v) }
noncomputable def rLiE (it l : Addr) (xs : List Value) (n i : Nat) : Rc := { code := .call (.builtin "list_iterator.__next__") ⟨[.ref it], []⟩, lvl := 890, pre := [(it, liO l i), (l, lstO xs n)], post := fun _ => [liN i, lstO xs n], new := fun z => [(z.n 2, stopO (z.n 3)), (z.n 3, tupO [])], res := fun z => .error (.ref (z.n 2)) }
section
variable (prog : Program) (w : World) (top : KT)
theorem sLiN (it l : Addr) (xs : List Value) (n i : Nat) (v : Value) (hv : xs[i]? = some v) : Spec prog w top (rLiN it l xs n i v) := by
  have e : Obj.mapFields (fun x => x.setIfInBounds 1 (rawInt (Int.ofNat i + 1))) (liO l i) = liO l (i + 1) := by simp [Obj.mapFields, liO, rawInt]
  refine spec_upd2 _ it l (liO l i) (liO l (i + 1)) (lstO xs n) (Obj.mapFields fun x => x.setIfInBounds 1 (rawInt (Int.ofNat i + 1))) e rfl rfl (fun _ => rfl) (fun _ => rfl) 0 (fun _ => .ok (.ret v)) (fun _ => rfl) fun A s _ ho hl R h => ?_
  refine codeAny_slotM slot_listiter_next ⟨_, ho, rfl⟩ entry_listiter_next (args_listiter_next _) ?_
  have hd : (liO l i).data = .fields ⟨[.ref l, .int (Int.ofNat i) 0]⟩ := rfl
  have hdl : (lstO xs n).data = .seq ⟨xs⟩ n := rfl
  show wpAny _ _ (field (.ref it) 0 >>= _) _ _ s
  refine wpAny_bind (wpAny_field ho hd (x := .ref l) rfl ?_)
  show wpAny _ _ (if (Value.ref l == Value.none) = true then _ else _) _ _ s
  rw [if_neg (show ¬ ((Value.ref l == Value.none) = true) from Bool.false_ne_true)]
  show wpAny _ _ (field (.ref it) 1 >>= _) _ _ s
  refine wpAny_bind (wpAny_field ho hd (x := .int (Int.ofNat i) 0) rfl ?_)
  show wpAny _ _ (seqItems? (.ref l) >>= _) _ _ s
  refine wpAny_bind (wpAny_seqItems hl hdl ?_)
  have hx : (⟨xs⟩ : Array Value)[(Int.ofNat i).toNat]? = some v := by simpa using hv
  simp only [hx]
  exact wpAny_bind (wpAny_setField ho hd (by simp) (wpAny_pure h))
end
noncomputable def rLiE3 (it l : Addr) (n : Nat) (V : Nat → Value) : Rc := rLiE it l (valsV V 3) n 3
noncomputable def rLiE3R (it l : Addr) (n : Nat) (V : Nat → Value) (m tk : Nat) : Rcs := .nil
end Mine
end
end
section
open PySem PySem.W PySem.W.X PyProof.Rows PySem.Calls
noncomputable section
namespace Mine
/-! deques of texts -/
noncomputable def vals (S : Nat → Str) (T : Nat → Nat) (n : Nat) : List Value := Nat.rec (motive := fun _ => (Nat → Str) → (Nat → Nat) → List Value) (fun _ _ => []) (fun _ ih S T => .str (S 0) (T 0) :: ih (fun i => S (i + 1)) (fun i => T (i + 1))) n S T
/-! read_token where there is nothing -/
noncomputable def rTokN (x dx y dy pb fs : Addr) (hx hy : Nat → Int) (kx ky vt : Nat → Nat) (b : Str) (tb p tp tt : Nat) : Rc :=
  { code := .call (.ref 732) ⟨[.ref x], []⟩, lvl := 800, pre := [(x, oSh dx), (dx, shD hx kx vt y pb fs .none (emptyT tt)), (y, oSio dy), (dy, sioD hy ky b tb p tp)],
    post := fun z => [oSh dx, shD hx kx vt y pb fs .none (emptyT (z.n 2)), oSio dy, sioD hy ky b tb p tp], new := fun _ => [], res := fun z => .ok (.ret .none) }
noncomputable def rTokNR (x dx y dy pb fs : Addr) (hx hy : Nat → Int) (kx ky vt : Nat → Nat) (b : Str) (tb p tp tt : Nat) (m tk : Nat) : Rcs := .cons (fun k => rEof y dy hy ky b tb p tp (tk1 k)) fun _ => .nil
noncomputable def rTokZ (x dx y dy pb fs : Addr) (hx hy : Nat → Int) (kx ky vt : Nat → Nat) (b : Str) (tb p tp ts tt : Nat) : Rc :=
  { code := .call (.ref 732) ⟨[.ref x], []⟩, lvl := 800, pre := [(x, oSh dx), (dx, shD hx kx vt y pb fs (st1 32 ts) (emptyT tt)), (y, oSio dy), (dy, sioD hy ky b tb p tp)],
    post := fun z => [oSh dx, shD hx kx vt y pb fs .none (emptyT (z.n 2)), oSio dy, sioD hy ky b tb p tp], new := fun _ => [], res := fun z => .ok (.ret .none) }
noncomputable def rTokZR (x dx y dy pb fs : Addr) (hx hy : Nat → Int) (kx ky vt : Nat → Nat) (b : Str) (tb p tp ts tt : Nat) (m tk : Nat) : Rcs := .cons (fun k => rEof y dy hy ky b tb p tp (tk1 k)) fun _ => .nil
/-! get_token, push_token -/
noncomputable abbrev Zn := Ov
noncomputable def rTk (x dx y dy pb fs : Addr) (hx : Nat → Int) (kx vt : Nat → Nat) (s1 t1 : Value) (yd : Obj) (S2 T2 : Zn → Value) (Y2 : Zn → Obj) (V : Zn → Result) : Rc :=
  { code := .call (.ref 732) ⟨[.ref x], []⟩, lvl := 800, pre := [(x, oSh dx), (dx, shD hx kx vt y pb fs s1 t1), (y, oSio dy), (dy, yd)],
    post := fun z => [oSh dx, shD hx kx vt y pb fs (S2 z) (T2 z), oSio dy, Y2 z], new := fun _ => [], res := V }
noncomputable def up2 (z : Zn) : Zn := ⟨fun i => z.n (i + 2), z.m, z.o, z.p, z.b⟩
/-- get_token out of the text: a word -/
noncomputable def rGetW (x dx y dy pb fs : Addr) (hx : Nat → Int) (kx vt : Nat → Nat) (s1 t1 : Value) (yd : Obj) (S2 T2 : Zn → Value) (Y2 : Zn → Obj) (sp : Int) (wd : Str) (wt : Zn → Nat) : Rc :=
  { code := .call (.ref 725) ⟨[.ref x], []⟩, lvl := 780, pre := [(x, oSh dx), (dx, shD hx kx vt y pb fs s1 t1), (y, oSio dy), (dy, yd), (pb, dqO sp [])],
    post := fun z => [oSh dx, shD hx kx vt y pb fs (S2 (up2 z)) (T2 (up2 z)), oSio dy, Y2 (up2 z), dqO sp []], new := fun _ => [], res := fun z => .ok (.ret (.str wd (wt (up2 z)))) }
noncomputable def rGetWR (x dx y dy pb fs : Addr) (hx : Nat → Int) (kx vt : Nat → Nat) (s1 t1 : Value) (yd : Obj) (S2 T2 : Zn → Value) (Y2 : Zn → Obj) (sp : Int) (wd : Str) (wt : Zn → Nat) (m tk : Nat) : Rcs :=
  .cons (fun _ => rTk x dx y dy pb fs hx kx vt s1 t1 yd S2 T2 Y2 (fun z => .ok (.ret (.str wd (wt z))))) fun _ => .nil
/-- get_token out of the text: nothing left -/
noncomputable def rGetN (x dx y dy pb fs : Addr) (hx : Nat → Int) (kx vt : Nat → Nat) (s1 t1 : Value) (yd : Obj) (S2 T2 : Zn → Value) (Y2 : Zn → Obj) (sp sf : Int) : Rc :=
  { code := .call (.ref 725) ⟨[.ref x], []⟩, lvl := 780, pre := [(x, oSh dx), (dx, shD hx kx vt y pb fs s1 t1), (y, oSio dy), (dy, yd), (pb, dqO sp []), (fs, dqO sf [])],
    post := fun z => [oSh dx, shD hx kx vt y pb fs (S2 (up2 z)) (T2 (up2 z)), oSio dy, Y2 (up2 z), dqO sp [], dqO sf []], new := fun _ => [], res := fun z => .ok (.ret .none) }
noncomputable def rGetNR (x dx y dy pb fs : Addr) (hx : Nat → Int) (kx vt : Nat → Nat) (s1 t1 : Value) (yd : Obj) (S2 T2 : Zn → Value) (Y2 : Zn → Obj) (sp sf : Int) (m tk : Nat) : Rcs :=
  .cons (fun _ => rTk x dx y dy pb fs hx kx vt s1 t1 yd S2 T2 Y2 (fun z => .ok (.ret .none))) fun _ => .nil
/-- get_token: a word that was pushed back -/
noncomputable def rGetP (x dx y pb fs : Addr) (hx : Nat → Int) (kx vt : Nat → Nat) (s1 t1 : Value) (sp : Int) (s : Str) (t : Nat) (xs : List Value) : Rc :=
  { code := .call (.ref 725) ⟨[.ref x], []⟩, lvl := 780, pre := [(x, oSh dx), (dx, shD hx kx vt y pb fs s1 t1), (pb, dqO sp (.str s t :: xs))],
    post := fun z => [oSh dx, shD hx kx vt y pb fs s1 t1, dqO (sp + 1) xs], new := fun _ => [], res := fun z => .ok (.ret (.str s t)) }
noncomputable def rGetPN (x dx y pb fs : Addr) (hx : Nat → Int) (kx vt : Nat → Nat) (s1 t1 : Value) (sp : Int) (s : Str) (t : Nat) (S : Nat → Str) (T : Nat → Nat) (n : Nat) : Rc := rGetP x dx y pb fs hx kx vt s1 t1 sp s t (vals S T n)
noncomputable def rGetPT (x dx y pb fs : Addr) (hx : Nat → Int) (kx vt : Nat → Nat) (s1 t1 : Value) (sp : Int) (s : Str) (t : Nat) (S : Nat → Str) (T : Nat → Nat) : Rc := rGetPN x dx y pb fs hx kx vt s1 t1 sp s t S T 3
noncomputable def rGetPTR (x dx y pb fs : Addr) (hx : Nat → Int) (kx vt : Nat → Nat) (s1 t1 : Value) (sp : Int) (s : Str) (t : Nat) (S : Nat → Str) (T : Nat → Nat) (m tk : Nat) : Rcs := .nil
noncomputable def rPush (x dx y pb fs : Addr) (hx : Nat → Int) (kx vt : Nat → Nat) (s1 t1 : Value) (sp : Int) (s : Str) (t : Nat) (xs : List Value) : Rc :=
  { code := .call (.ref 703) ⟨[.ref x, .str s t], []⟩, lvl := 780, pre := [(x, oSh dx), (dx, shD hx kx vt y pb fs s1 t1), (pb, dqO sp xs)],
    post := fun z => [oSh dx, shD hx kx vt y pb fs s1 t1, dqO (sp + 1) (.str s t :: xs)], new := fun _ => [], res := fun z => .ok (.ret .none) }
noncomputable def rPushN (x dx y pb fs : Addr) (hx : Nat → Int) (kx vt : Nat → Nat) (s1 t1 : Value) (sp : Int) (s : Str) (t : Nat) (S : Nat → Str) (T : Nat → Nat) (n : Nat) : Rc := rPush x dx y pb fs hx kx vt s1 t1 sp s t (vals S T n)
noncomputable def rPushT (x dx y pb fs : Addr) (hx : Nat → Int) (kx vt : Nat → Nat) (s1 t1 : Value) (sp : Int) (s : Str) (t : Nat) (S : Nat → Str) (T : Nat → Nat) : Rc := rPushN x dx y pb fs hx kx vt s1 t1 sp s t S T 3
noncomputable def rPushTR (x dx y pb fs : Addr) (hx : Nat → Int) (kx vt : Nat → Nat) (s1 t1 : Value) (sp : Int) (s : Str) (t : Nat) (S : Nat → Str) (T : Nat → Nat) (m tk : Nat) : Rcs := .nil
end Mine
end
end
section
open PySem PySem.W PySem.W.X PyProof.Rows PySem.Calls
noncomputable section
namespace Mine
noncomputable def intV (v : Value) : Int := match v with
  | .int i _ => i
  | _ => 0
noncomputable def in0 (c : Code) : Int := intV (nthV (argsC c) 0)
noncomputable def in1 (c : Code) : Int := intV (nthV (argsC c) 1)
/-! _law_rule -/
noncomputable def rRule (tb : Addr) (xs : List Value) (n : Nat) (st : Int) (ts tw : Nat) (x : Int) (tx : Nat) (ww : Str) (on : Bool) (wd : Str) : Rc :=
  { code := .call (.ref 797) ⟨[.ref tb, .int st ts, .str wd tw], []⟩, lvl := 700, pre := [(tb, lstO xs n)], post := fun _ => [lstO xs n], new := fun z => [(z.n 2, tupO [.str ww (z.n 3), .bool on, .int (x / 8) (z.n 4)])], res := fun z => .ok (.ret (.ref (z.n 2))) }
noncomputable def wl (t : Nat) : List Value := [.str ⟨⟨w0⟩⟩ t, .str ⟨⟨w1⟩⟩ (t + 1), .str ⟨⟨w2⟩⟩ (t + 2), .str ⟨⟨w3⟩⟩ (t + 3)]
noncomputable def rRuleR (tb : Addr) (xs : List Value) (n : Nat) (st : Int) (ts tw : Nat) (x : Int) (tx : Nat) (ww : Str) (on : Bool) (wd : Str) (j : Nat) (c : Int) (m tk : Nat) : Rcs :=
  .cons (fun k => rBin "int.__mul__" 3 st (tk0 k) (tk1 k) (3 * st)) fun _ =>
  .cons (fun k => rItem tb xs n (3 * st + 1 + c) (tk1 k) (.int x tx)) fun za =>
  .cons (fun k => rBin "int.__mod__" x 4 (tk0 k) (tk1 k) (x % 4)) fun z =>
  .cons (fun k => rItem (ad0 k) (wl (za.n 1 + 1)) 0 (x % 4) (tk1 k) (.str ww (za.n 1 + 1 + j))) fun z =>
  .cons (fun k => rBin "int.__floordiv__" x 4 (tk0 k) (tk1 k) (x / 4)) fun z =>
  .cons (fun k => rBin "int.__mod__" (x / 4) 2 (tk0 k) (tk1 k) (x / 4 % 2)) fun z =>
  .cons (fun k => rEq (x / 4 % 2) 0 (tk0 k) (tk1 k) on) fun z =>
  .cons (fun k => rBin "int.__floordiv__" x 8 (tk0 k) (tk1 k) (x / 8)) fun z => .nil
noncomputable def rRule0 (tb : Addr) (xs : List Value) (n : Nat) (st : Int) (ts tw : Nat) (x : Int) (tx : Nat) (ww : Str) (on : Bool) (j : Nat) : Rc := rRule tb xs n st ts tw x tx ww on ⟨⟨w0⟩⟩
noncomputable def rRule0R (tb : Addr) (xs : List Value) (n : Nat) (st : Int) (ts tw : Nat) (x : Int) (tx : Nat) (ww : Str) (on : Bool) (j : Nat) (m tk : Nat) : Rcs := rRuleR tb xs n st ts tw x tx ww on ⟨⟨w0⟩⟩ j (-1) m tk
noncomputable def rRule1 (tb : Addr) (xs : List Value) (n : Nat) (st : Int) (ts tw : Nat) (x : Int) (tx : Nat) (ww : Str) (on : Bool) (j : Nat) : Rc := rRule tb xs n st ts tw x tx ww on ⟨⟨w1⟩⟩
noncomputable def rRule1R (tb : Addr) (xs : List Value) (n : Nat) (st : Int) (ts tw : Nat) (x : Int) (tx : Nat) (ww : Str) (on : Bool) (j : Nat) (m tk : Nat) : Rcs := rRuleR tb xs n st ts tw x tx ww on ⟨⟨w1⟩⟩ j (0) m tk
noncomputable def rRule2 (tb : Addr) (xs : List Value) (n : Nat) (st : Int) (ts tw : Nat) (x : Int) (tx : Nat) (ww : Str) (on : Bool) (j : Nat) : Rc := rRule tb xs n st ts tw x tx ww on ⟨⟨w2⟩⟩
noncomputable def rRule2R (tb : Addr) (xs : List Value) (n : Nat) (st : Int) (ts tw : Nat) (x : Int) (tx : Nat) (ww : Str) (on : Bool) (j : Nat) (m tk : Nat) : Rcs := rRuleR tb xs n st ts tw x tx ww on ⟨⟨w2⟩⟩ j (1) m tk
noncomputable def rRule3 (tb : Addr) (xs : List Value) (n : Nat) (st : Int) (ts tw : Nat) (x : Int) (tx : Nat) (ww : Str) (on : Bool) (j : Nat) : Rc := rRule tb xs n st ts tw x tx ww on ⟨⟨w3⟩⟩
noncomputable def rRule3R (tb : Addr) (xs : List Value) (n : Nat) (st : Int) (ts tw : Nat) (x : Int) (tx : Nat) (ww : Str) (on : Bool) (j : Nat) (m tk : Nat) : Rcs := rRuleR tb xs n st ts tw x tx ww on ⟨⟨w3⟩⟩ j (1) m tk
end Mine
end
end
section
open PySem PySem.W PySem.W.X PyProof.Rows PySem.Calls
noncomputable section
namespace Mine
/-! the netrc machine's parts -/
noncomputable def fnOf (top : KT) (a : Nat) : FuncData := match top.get a with
  | some o => match o.data with
    | .func fd => fd
    | _ => default
  | none => default
noncomputable def stmtsOf (fd : FuncData) : List Stmt := match fd.body with
  | .stmts b => b
  | _ => []
noncomputable def nthS (l : List Stmt) : Nat → Stmt := List.rec (motive := fun _ => Nat → Stmt) (fun _ => default) (fun s _ ih i => Nat.rec (motive := fun _ => Stmt) s (fun j _ => ih j) i) l
noncomputable def giveFd (top : KT) (ct cp ctu cd : Addr) : FuncData := match nthS (stmtsOf (fnOf top 790)) 2 with
  | .FunctionDef _ ps body _ _ _ sc _ _ _ => { name := .ofString "_law_give", qualname := .ofString "_law_stream.<locals>._law_give", params := ps, body := .stmts body, scope := sc, globals := 3, closure := [(.ofString "text", ct), (.ofString "place", cp)], defaults := .none, kwdefaults := .none, pyModule := .str (.ofString "law_in0139_01") 1223, code := .ref cd, closureTuple := .ref ctu }
  | _ => default
noncomputable def giveO (top : KT) (ct cp ctu cd : Addr) : Obj := { cls := .type "function", data := .func (giveFd top ct cp ctu cd) }
noncomputable def codO (a : Value) (q : Nat) (rest : List Value) : Obj := { cls := .type "code", data := .fields ⟨a :: .str (.ofString "_law_stream.<locals>._law_give") q :: rest⟩ }
noncomputable def celO (v : Value) : Obj := { cls := .type "cell", data := .cell (some v) }
noncomputable def nth0 (l : List Value) : Value := nthV l 0
noncomputable def drop2 (l : List Value) : List Value := match l with
  | _ :: _ :: r => r
  | _ => []
noncomputable def tab0 : Obj := { cls := .none, data := .fields ⟨[]⟩ }
noncomputable def tab1 (cd : Addr) : Obj := { cls := .none, data := .fields ⟨[.int 785 0, .int 4 0, .ref cd]⟩ }
/-- a machine of netrc: its dict; with `read` behind it for the stream -/
noncomputable def nxD (hh : Nat → Int) (kt : Nat → Nat) (tl tw : Nat) (ins : Value) (pb : Addr) (more : List DictEntry) (k : Nat) : Obj :=
  dicO (en (hh 0) "lineno" (kt 0) (.int 1 tl) :: en (hh 1) "instream" (kt 1) ins :: en (hh 2) "whitespace" (kt 2) (.str (.mk ⟨[10, 9, 13, 32]⟩) tw) :: en (hh 3) "pushback" (kt 3) (.ref pb) :: more) k
noncomputable def oNx (d : Addr) : Obj := objI 77 d
noncomputable def rdE (hh : Nat → Int) (kt : Nat → Nat) (fn : Addr) : List DictEntry := [en (hh 4) "read" (kt 4) (.ref fn)]
noncomputable def kts (z : Ov) (i : Nat) : Nat → Nat := fun j => z.n (i + j)
noncomputable def rStream (top : KT) (b : Str) (tb : Nat) : Rc :=
  { code := .call (.ref 790) ⟨[.str b tb], []⟩, lvl := 700, pre := [(785, tab0)], post := fun z => [tab1 (z.n 9)],
    new := fun z => [(z.n 2, oNx (z.n 3)), (z.n 3, nxD (hashAt (z.o 0)) (kts z 20) (z.n 10) (z.n 11) .none (z.n 4) (rdE (hashAt (z.o 0)) (kts z 20) (z.n 5)) 5), (z.n 5, giveO top (z.n 6) (z.n 7) (z.n 8) (z.n 9)),
      (z.n 9, codO (nth0 (fldAt (z.o 1))) (z.n 12) (drop2 (fldAt (z.o 1)))), (z.n 6, celO (.str b tb)), (z.n 7, celO (.ref (z.n 13))), (z.n 13, lstO [.int 0 (z.n 14)] 0)], res := fun z => .ok (.ret (.ref (z.n 2))) }
noncomputable def rStreamR (top : KT) (b : Str) (tb : Nat) (m tk : Nat) : Rcs := .nil
end Mine
end
end
section
open PySem PySem.W PySem.W.X PyProof.Rows PySem.Calls
noncomputable section
namespace Mine
/-! the netrc lexer upon the text -/
structure NX where
  ln : Addr
  dl : Addr
  pb : Addr
  sr : Addr
  ds : Addr
  sp : Addr
  fn : Addr
  cd : Addr
  ct : Addr
  cp : Addr
  pl : Addr
  ctu : Addr
  h1 : Nat → Int
  h2 : Nat → Int
  k1 : Nat → Nat
  k2 : Nat → Nat
  tl1 : Nat
  tw1 : Nat
  tl2 : Nat
  tw2 : Nat
  q : Nat
  tb : Nat
  b : Str
  ca : Value
  rest : List Value
  n : Nat
noncomputable def NX.obs (W : NX) (top : KT) (p tp : Nat) : List (Addr × Obj) :=
  [(W.fn, giveO top W.ct W.cp W.ctu W.cd), (W.cd, codO W.ca W.q W.rest), (W.ct, celO (.str W.b W.tb)), (W.cp, celO (.ref W.pl)), (W.pl, lstO [.int (Int.ofNat p) tp] W.n)]
noncomputable def NX.all (W : NX) (top : KT) (p tp : Nat) : List (Addr × Obj) :=
  (W.ln, oNx W.dl) :: (W.dl, nxD W.h1 W.k1 W.tl1 W.tw1 (.ref W.sr) W.pb [] 4) :: (W.sr, oNx W.ds) :: (W.ds, nxD W.h2 W.k2 W.tl2 W.tw2 .none W.sp (rdE W.h2 W.k2 W.fn) 5) :: W.obs top p tp
noncomputable def snds (l : List (Addr × Obj)) : List Obj := List.rec (motive := fun _ => List Obj) [] (fun p _ ih => p.2 :: ih) l
noncomputable def rGive (top : KT) (W : NX) (p tp t c : Nat) : Rc :=
  { code := .call (.ref W.fn) ⟨[.int 1 t], []⟩, lvl := 860, pre := W.obs top p tp, post := fun z => snds (W.obs top (p + 1) (z.n 2)), new := fun _ => [], res := fun z => .ok (.ret (.str (.mk ⟨[c]⟩) (z.n 3))) }
noncomputable def rGiveR (top : KT) (W : NX) (p tp t c : Nat) (m tk : Nat) : Rcs :=
  .cons (fun k => rSign W.b W.tb (ad1 k) p tp (Int.ofNat p + 1) (tk + 3) c) fun _ => .nil
noncomputable def rRdc (top : KT) (W : NX) (p tp c : Nat) : Rc :=
  { code := .call (.ref 60) ⟨[.ref W.ln], []⟩, lvl := 830, pre := W.all top p tp, post := fun z => snds (W.all top (p + 1) (z.n 2)), new := fun _ => [], res := fun z => .ok (.ret (.str (.mk ⟨[c]⟩) (z.n 3))) }
noncomputable def tkL (c : Code) : Nat := tokV (nthV (argsC c) 0)
noncomputable def fnR (top : KT) (W : NX) (p tp c : Nat) (k : Code) : Rc := rGive top W p tp (tkL k) c
noncomputable def rRdcR (top : KT) (W : NX) (p tp c : Nat) (m tk : Nat) : Rcs := .cons (fun k => rGive top W p tp (tkL k) c) fun _ => .cons (fun k => rSeq (.mk ⟨[c]⟩) (.mk ⟨[10]⟩) (tk0 k) (tk1 k) false) fun _ => .nil
/-- get_token: the text's next word, `cs` its signs -/
noncomputable def rNTok (top : KT) (W : NX) (p tp k : Nat) (cs word : List Nat) : Rc :=
  { code := .call (.ref 67) ⟨[.ref W.ln], []⟩, lvl := 740, pre := (W.pb, lstO [] k) :: W.all top p tp, post := fun z => lstO [] k :: snds (W.all top (p + cs.length) (z.n 2)), new := fun _ => [], res := fun z => .ok (.ret (.str (.mk ⟨word⟩) (z.n 3))) }
noncomputable def rdN (top : KT) (W : NX) (cs : List Nat) : Nat → Nat → Rcs :=
  List.rec (motive := fun _ => Nat → Nat → Rcs) (fun _ _ => .nil) (fun c _ ih p tp => .cons (fun _ => rRdc top W p tp c) (fun z => ih (p + 1) (z.n 2))) cs
noncomputable def rNTokR (top : KT) (W : NX) (p tp k : Nat) (cs : List Nat) (m tk : Nat) : Rcs := rdN top W cs p tp
noncomputable def rNA0 (top : KT) (W : NX) (p tp k : Nat) : Rc := rNTok top W p tp k q0 w0
noncomputable def rNA0R (top : KT) (W : NX) (p tp k : Nat) (m tk : Nat) : Rcs := rNTokR top W p tp k q0 m tk
noncomputable def rNB0 (top : KT) (W : NX) (p tp k : Nat) : Rc := rNTok top W p tp k (32 :: q0) w0
noncomputable def rNB0R (top : KT) (W : NX) (p tp k : Nat) (m tk : Nat) : Rcs := rNTokR top W p tp k (32 :: q0) m tk
noncomputable def rNA1 (top : KT) (W : NX) (p tp k : Nat) : Rc := rNTok top W p tp k q1 w1
noncomputable def rNA1R (top : KT) (W : NX) (p tp k : Nat) (m tk : Nat) : Rcs := rNTokR top W p tp k q1 m tk
noncomputable def rNB1 (top : KT) (W : NX) (p tp k : Nat) : Rc := rNTok top W p tp k (32 :: q1) w1
noncomputable def rNB1R (top : KT) (W : NX) (p tp k : Nat) (m tk : Nat) : Rcs := rNTokR top W p tp k (32 :: q1) m tk
noncomputable def rNA2 (top : KT) (W : NX) (p tp k : Nat) : Rc := rNTok top W p tp k q2 w2
noncomputable def rNA2R (top : KT) (W : NX) (p tp k : Nat) (m tk : Nat) : Rcs := rNTokR top W p tp k q2 m tk
noncomputable def rNB2 (top : KT) (W : NX) (p tp k : Nat) : Rc := rNTok top W p tp k (32 :: q2) w2
noncomputable def rNB2R (top : KT) (W : NX) (p tp k : Nat) (m tk : Nat) : Rcs := rNTokR top W p tp k (32 :: q2) m tk
noncomputable def rNA3 (top : KT) (W : NX) (p tp k : Nat) : Rc := rNTok top W p tp k q3 w3
noncomputable def rNA3R (top : KT) (W : NX) (p tp k : Nat) (m tk : Nat) : Rcs := rNTokR top W p tp k q3 m tk
noncomputable def rNB3 (top : KT) (W : NX) (p tp k : Nat) : Rc := rNTok top W p tp k (32 :: q3) w3
noncomputable def rNB3R (top : KT) (W : NX) (p tp k : Nat) (m tk : Nat) : Rcs := rNTokR top W p tp k (32 :: q3) m tk
end Mine
end
end
section
open PySem PySem.W PySem.W.X PyProof.Rows PySem.Calls
noncomputable section
namespace Mine
/-! the netrc lexer's pushed-back words -/
noncomputable def NX.line (W : NX) (xs : List Value) (k : Nat) : List (Addr × Obj) := [(W.ln, oNx W.dl), (W.dl, nxD W.h1 W.k1 W.tl1 W.tw1 (.ref W.sr) W.pb [] 4), (W.pb, lstO xs k)]
noncomputable def rNPop (W : NX) (xs : List Value) (s : Str) (t k : Nat) : Rc :=
  { code := .call (.ref 67) ⟨[.ref W.ln], []⟩, lvl := 740, pre := W.line (.str s t :: xs) k, post := fun z => snds (W.line xs (k + 1)), new := fun _ => [], res := fun z => .ok (.ret (.str s t)) }
noncomputable def rNPopR (W : NX) (xs : List Value) (s : Str) (t k : Nat) (m tk : Nat) : Rcs := .cons (fun _ => rLenB W.pb (.str s t :: xs) k) fun _ => .cons (fun c => rPop W.pb xs k (tk1 c) (.str s t)) fun _ => .nil
noncomputable def rNPush (W : NX) (xs : List Value) (s : Str) (t k : Nat) : Rc :=
  { code := .call (.ref 74) ⟨[.ref W.ln, .str s t], []⟩, lvl := 740, pre := W.line xs k, post := fun z => snds (W.line (xs ++ [.str s t]) (k + 1)), new := fun _ => [], res := fun z => .ok (.ret .none) }
noncomputable def rNPushR (W : NX) (xs : List Value) (s : Str) (t k : Nat) (m tk : Nat) : Rcs := .cons (fun c => rApp W.pb xs k (.str s t)) fun _ => .nil
end Mine
end
end
section
open PySem PySem.W PySem.W.X PyProof.Rows PySem.Calls
noncomputable section
namespace Mine
noncomputable def rGetPR (x dx y pb fs : Addr) (hx : Nat → Int) (kx vt : Nat → Nat) (s1 t1 : Value) (sp : Int) (s : Str) (t : Nat) (xs : List Value) (m tk : Nat) : Rcs := .cons (fun _ => rDLen pb sp (.str s t :: xs)) fun _ => .cons (fun _ => rDPop pb sp s t xs) fun _ => .nil
noncomputable def rPushR (x dx y pb fs : Addr) (hx : Nat → Int) (kx vt : Nat → Nat) (s1 t1 : Value) (sp : Int) (s : Str) (t : Nat) (xs : List Value) (m tk : Nat) : Rcs := .cons (fun _ => rDApp pb sp s t xs) fun _ => .nil
end Mine
end
end
section
open PySem PySem.W PySem.W.X PyProof.Rows PySem.Calls
noncomputable section
namespace Mine
/-! shlex(text, None, True) -/
noncomputable def rShNew (b : Str) (tb : Nat) : Rc :=
  { code := .call (.ref 764) ⟨[.str b tb, .none, .bool true], []⟩, lvl := 700, pre := [], post := fun _ => [],
    new := fun z => [(z.n 2, oSh (z.n 3)), (z.n 3, shD (hashAt (z.o 0)) (kts z 20) (kts z 50) (z.n 4) (z.n 5) (z.n 6) (st1 32 (z.n 7)) (emptyT (z.n 8))), (z.n 4, oSio (z.n 9)), (z.n 9, sioD (hashAt (z.o 1)) (kts z 70) b tb 0 (z.n 10)), (z.n 5, dqO 0 []), (z.n 6, dqO 0 [])],
    res := fun z => .ok (.ret (.ref (z.n 2))) }
noncomputable def rShNewR (b : Str) (tb : Nat) (m tk : Nat) : Rcs := .nil
end Mine
end
end
section
open PySem PySem.W PySem.W.X PyProof.Rows PySem.Calls
noncomputable section
namespace Mine
/-! loops: their codes, their frames -/
noncomputable def hsh (P₀ : Params) (s : String) : Int := PySem.W.X.condFn Int (Str.ofString s).cps.isEmpty 0 (PySem.W.ZFast.zw12210062019545310541 (P₀.strHash (Str.ofString s).cps))
noncomputable def eP (P₀ : Params) (s : String) (t : Nat) (v : Value) : DictEntry := en (hsh P₀ s) s t v
noncomputable def frmO (es : List DictEntry) (k : Nat) (sl : Array (Option Value)) : Obj := { cls := .type "frame", data := .dict ⟨es⟩ k, slots := sl }
noncomputable def fEnv (top : KT) (a : Addr) (q : String) (L : Addr) (cells : List (Str × Addr)) : Env := { scope := (fnOf top a).scope, locals := L, globals := 3, cells := cells, qual := .ofString q, func := some a, code := (fnOf top a).code, frame := some L, builtins := 0 }
noncomputable def forC (s : Stmt) (it : Value) (env : Env) : Code := match s with
  | .For t _ b e _ => .forLoop t it b e env
  | _ => default
/-! _law_round -/
noncomputable def cRound (top : KT) (it L : Addr) : Code := forC (nthS (stmtsOf (fnOf top 811)) 0) (.ref it) (fEnv top 811 "_law_round.<locals>." L [])
noncomputable def fRound (P₀ : Params) (W : NX) (t0 t1 much tm : Nat) (kx : List DictEntry) (n : Nat) : Obj := frmO (eP P₀ "line" t0 (.ref W.ln) :: eP P₀ "much" t1 (.int (Int.ofNat much) tm) :: kx) n #[]
noncomputable def rRdL (top : KT) (P₀ : Params) (W : NX) (it L t0 t1 much tm : Nat) (kx : List DictEntry) (n : Nat) (xs : List Value) (k c r : Nat) (fin : List Value) (kf : Nat) : Rc :=
  { code := cRound top it L, lvl := 730, pre := (it, rgItO c r) :: (L, fRound P₀ W t0 t1 much tm kx n) :: W.line xs k, post := fun z => z.o 0 :: z.o 1 :: snds (W.line fin kf), new := fun _ => [], res := fun _ => .ok .next }
/-- the end -/
noncomputable def rRdLE (top : KT) (P₀ : Params) (W : NX) (it L t0 t1 much tm : Nat) (kx : List DictEntry) (n : Nat) (xs : List Value) (k c : Nat) : Rc := rRdL top P₀ W it L t0 t1 much tm kx n xs k c 0 xs k
noncomputable def rRdLER (top : KT) (P₀ : Params) (W : NX) (it L t0 t1 much tm : Nat) (kx : List DictEntry) (n : Nat) (xs : List Value) (k c : Nat) (m tk : Nat) : Rcs := .nil
/-- the first turn, and the later ones -/
noncomputable def rRdLF (top : KT) (P₀ : Params) (W : NX) (it L t0 t1 much tm : Nat) (s : Str) (t : Nat) (xs : List Value) (k c r : Nat) (fin : List Value) (kf : Nat) : Rc := rRdL top P₀ W it L t0 t1 much tm [] 2 (.str s t :: xs) k c (r + 1) fin kf
noncomputable def rRdLT (top : KT) (P₀ : Params) (W : NX) (it L t0 t1 t2 much tm : Nat) (kv : Int) (tv : Nat) (s : Str) (t : Nat) (xs : List Value) (k c r : Nat) (fin : List Value) (kf : Nat) : Rc := rRdL top P₀ W it L t0 t1 much tm [eP P₀ "k" t2 (.int kv tv)] 3 (.str s t :: xs) k c (r + 1) fin kf
noncomputable def rRdLS (top : KT) (P₀ : Params) (W : NX) (it L t0 t1 much tm : Nat) (s : Str) (t : Nat) (xs : List Value) (k c r : Nat) (fin : List Value) (kf : Nat) (K : Ov → List DictEntry) : Rcs :=
  .cons (fun _ => rRgN it c r) fun z => .cons (fun _ => rNPop W xs s t k) fun _ => .cons (fun _ => rNPush W xs s t (k + 1)) fun _ => .cons (fun _ => rRdL top P₀ W it L t0 t1 much tm (K z) 3 (xs ++ [.str s t]) (k + 2) (c + 1) r fin kf) fun _ => .nil
noncomputable def rRdLFR (top : KT) (P₀ : Params) (W : NX) (it L t0 t1 much tm : Nat) (s : Str) (t : Nat) (xs : List Value) (k c r : Nat) (fin : List Value) (kf : Nat) (m tk : Nat) : Rcs :=
  rRdLS top P₀ W it L t0 t1 much tm s t xs k c r fin kf fun z => [eP P₀ "k" (z.n 1) (.int (Int.ofNat c) (z.n 2))]
noncomputable def rRdLTR (top : KT) (P₀ : Params) (W : NX) (it L t0 t1 t2 much tm : Nat) (kv : Int) (tv : Nat) (s : Str) (t : Nat) (xs : List Value) (k c r : Nat) (fin : List Value) (kf : Nat) (m tk : Nat) : Rcs :=
  rRdLS top P₀ W it L t0 t1 much tm s t xs k c r fin kf fun z => [eP P₀ "k" t2 (.int (Int.ofNat c) (z.n 2))]
/-- the call -/
noncomputable def rRound (top : KT) (P₀ : Params) (W : NX) (xs : List Value) (k much t : Nat) (fin : List Value) (kf : Nat) : Rc :=
  { code := .call (.ref 811) ⟨[.ref W.ln, .int (Int.ofNat much) t], []⟩, lvl := 720, pre := W.line xs k, post := fun z => snds (W.line fin kf), new := fun _ => [], res := fun z => .ok (.ret .none) }
noncomputable def rRoundR (top : KT) (P₀ : Params) (W : NX) (xs : List Value) (k much t : Nat) (fin : List Value) (kf : Nat) (m tk : Nat) : Rcs :=
  .cons (fun c => rRgI (ad0 c) (tk + 2) much t (tk + 3)) fun z => .cons (fun _ => rRdL top P₀ W (z.n 2) (m + 829) tk (tk + 1) much t [] 2 xs k 0 much fin kf) fun _ => .nil
end Mine
end
end
section
open PySem PySem.W PySem.W.X PyProof.Rows PySem.Calls
noncomputable section
namespace Mine
/-! _netrclex(stream) -/
noncomputable def rLine (sr : Addr) : Rc :=
  { code := .call (.ref 77) ⟨[.ref sr], []⟩, lvl := 700, pre := [], post := fun _ => [], new := fun z => [(z.n 2, oNx (z.n 3)), (z.n 3, nxD (hashAt (z.o 0)) (kts z 20) (z.n 10) (z.n 11) (.ref sr) (z.n 4) [] 4), (z.n 4, lstO [] 0)], res := fun z => .ok (.ret (.ref (z.n 2))) }
noncomputable def rLineR (sr : Addr) (m tk : Nat) : Rcs := .nil
/-! _law_by_one: the words read -/
noncomputable abbrev MM := Nat → Nat → Nat
noncomputable def compE (s : Stmt) : Expr := match s with
  | .For _ (.BinOp e _ _ _) _ _ _ => e
  | _ => default
noncomputable def scE (e : Expr) : Scope := match e with
  | .ListComp _ _ sc _ => { sc with names := List.map (fun q => match q.2 with | .free => (q.1, .cell) | _ => q) sc.names }
  | _ => default
noncomputable def cEnv (top : KT) (a : Addr) (q : String) (L ns : Addr) (cells : List (Str × Addr)) (e : Expr) : Env := { scope := scE e, locals := ns, globals := 3, cells := cells, qual := .ofString q, func := none, code := (fnOf top a).code, frame := some L, builtins := 0 }
noncomputable def eC1 (top : KT) : Expr := compE (nthS (stmtsOf (fnOf top 816)) 1)
noncomputable def envC1 (top : KT) (L ns cl : Addr) : Env := cEnv top 816 "_law_by_one.<locals>." L ns [(.ofString "line", cl)] (eC1 top)
/-- the words read: the loop -/
noncomputable def rC1 (code : Code) (top : KT) (P₀ : Params) (W : NX) (it ns acc cl : Addr) (kx : List DictEntry) (n : Nat) (ys : List Value) (k kp p tp c r : Nat) (Ns Ac : MM → Obj) (pf : Nat) : Rc :=
  { code := code, lvl := 690, pre := (it, rgItO c r) :: (ns, dicO kx n) :: (acc, lstO ys k) :: (cl, celO (.ref W.ln)) :: (W.pb, lstO [] kp) :: W.all top p tp,
    post := fun z => z.o 0 :: Ns z.m :: Ac z.m :: celO (.ref W.ln) :: lstO [] kp :: snds (W.all top pf (z.m 9 0)), new := fun _ => [], res := fun _ => .ok .next }
noncomputable def loopC1 (top : KT) (it L ns acc cl : Addr) : Code := .compLoop (eC1 top) 0 (.ref it) (.ref acc) (envC1 top L ns cl)
noncomputable def startC1 (top : KT) (it L ns acc cl : Addr) : Code := .compStart (eC1 top) 0 (.ref it) (.ref acc) (envC1 top L ns cl)
/-- get_token, in the abstract -/
noncomputable def rNTk (top : KT) (W : NX) (p tp kp pf : Nat) (wd : Str) : Rc :=
  { code := .call (.ref 67) ⟨[.ref W.ln], []⟩, lvl := 740, pre := (W.pb, lstO [] kp) :: W.all top p tp, post := fun z => lstO [] kp :: snds (W.all top pf (z.n 2)), new := fun _ => [], res := fun z => .ok (.ret (.str wd (z.n 3))) }
/-- the end -/
noncomputable def rC1E (top : KT) (P₀ : Params) (W : NX) (it L ns acc cl : Addr) (kx : List DictEntry) (n : Nat) (ys : List Value) (k kp p tp c : Nat) : Rc := rC1 (loopC1 top it L ns acc cl) top P₀ W it ns acc cl kx n ys k kp p tp c 0 (fun _ => dicO kx n) (fun _ => lstO ys k) p
noncomputable def rC1ER (top : KT) (P₀ : Params) (W : NX) (it L ns acc cl : Addr) (kx : List DictEntry) (n : Nat) (ys : List Value) (k kp p tp c : Nat) (m tk : Nat) : Rcs := .nil
noncomputable def rC1S (top : KT) (P₀ : Params) (W : NX) (it L ns acc cl : Addr) (ys : List Value) (k kp p tp c r : Nat) (Ns Ac : MM → Obj) (pm pf : Nat) (wd : Str) (K : Ov → List DictEntry) : Rcs :=
  .cons (fun _ => rRgN it c r) fun z => .cons (fun _ => rNTk top W p tp kp pm wd) fun y => .cons (fun _ => rApp acc ys k (.str wd (y.n 3))) fun _ => .cons (fun _ => rC1 (loopC1 top it L ns acc cl) top P₀ W it ns acc cl (K z) 1 (ys ++ [.str wd (y.n 3)]) (k + 1) kp pm (y.n 2) (c + 1) r Ns Ac pf) fun _ => .nil
/-- the first turn -/
noncomputable def rC1F (top : KT) (P₀ : Params) (W : NX) (it L ns acc cl : Addr) (ys : List Value) (k kp p tp c r : Nat) (Ns Ac : MM → Obj) (pm pf : Nat) (wd : Str) : Rc := rC1 (loopC1 top it L ns acc cl) top P₀ W it ns acc cl [] 0 ys k kp p tp c (r + 1) Ns Ac pf
noncomputable def rC1FR (top : KT) (P₀ : Params) (W : NX) (it L ns acc cl : Addr) (ys : List Value) (k kp p tp c r : Nat) (Ns Ac : MM → Obj) (pm pf : Nat) (wd : Str) (m tk : Nat) : Rcs := rC1S top P₀ W it L ns acc cl ys k kp p tp c r Ns Ac pm pf wd fun z => [eP P₀ "k" (z.n 1) (.int (Int.ofNat c) (z.n 2))]
noncomputable def rC1T (top : KT) (P₀ : Params) (W : NX) (it L ns acc cl : Addr) (ys : List Value) (k kp p tp c r : Nat) (Ns Ac : MM → Obj) (pm pf : Nat) (wd : Str) (t2 : Nat) (kv : Int) (tv : Nat) : Rc := rC1 (loopC1 top it L ns acc cl) top P₀ W it ns acc cl [eP P₀ "k" t2 (.int kv tv)] 1 ys k kp p tp c (r + 1) Ns Ac pf
noncomputable def rC1TR (top : KT) (P₀ : Params) (W : NX) (it L ns acc cl : Addr) (ys : List Value) (k kp p tp c r : Nat) (Ns Ac : MM → Obj) (pm pf : Nat) (wd : Str) (t2 : Nat) (kv : Int) (tv : Nat) (m tk : Nat) : Rcs := rC1S top P₀ W it L ns acc cl ys k kp p tp c r Ns Ac pm pf wd fun z => [eP P₀ "k" t2 (.int (Int.ofNat c) (z.n 2))]
/-- the start -/
noncomputable def rC1B (top : KT) (P₀ : Params) (W : NX) (it L ns acc cl : Addr) (ys : List Value) (k kp p tp c r : Nat) (Ns Ac : MM → Obj) (pf : Nat) : Rc := rC1 (startC1 top it L ns acc cl) top P₀ W it ns acc cl [] 0 ys k kp p tp c r Ns Ac pf
noncomputable def rC1BR (top : KT) (P₀ : Params) (W : NX) (it L ns acc cl : Addr) (ys : List Value) (k kp p tp c r : Nat) (Ns Ac : MM → Obj) (pf : Nat) (m tk : Nat) : Rcs := .cons (fun _ => rC1 (loopC1 top it L ns acc cl) top P₀ W it ns acc cl [] 0 ys k kp p tp c r Ns Ac pf) fun _ => .nil
/-! _law_by_one -/
noncomputable def rOneT (top : KT) (P₀ : Params) (b : Str) (tb tab st ts size tz : Nat) : Rc :=
  { code := .call (.ref 816) ⟨[.str b tb, .ref tab, .int (Int.ofNat st) ts, .int (Int.ofNat size) tz], []⟩, lvl := 640, pre := [(785, tab0)], post := fun z => [], new := fun _ => [], res := fun z => .ok (.ret .none) }
noncomputable def wOf (x y : Ov) (b : Str) (tb : Nat) : NX := { ln := y.n 2, dl := y.n 3, pb := y.n 4, sr := x.n 2, ds := x.n 3, sp := x.n 4, fn := x.n 5, cd := x.n 9, ct := x.n 6, cp := x.n 7, pl := x.n 13, ctu := x.n 8, h1 := hashAt (y.o 0), h2 := hashAt (x.o 0), k1 := kts y 20, k2 := kts x 20, tl1 := y.n 10, tw1 := y.n 11, tl2 := x.n 10, tw2 := x.n 11, q := x.n 12, tb := tb, b := b, ca := nth0 (fldAt (x.o 1)), rest := drop2 (fldAt (x.o 1)), n := 0 }
noncomputable def rOneTR (top : KT) (P₀ : Params) (b : Str) (tb tab st ts size tz : Nat) (m tk : Nat) : Rcs :=
  .cons (fun _ => rStream top b tb) fun x => .cons (fun _ => rLine (x.n 2)) fun y => .cons (fun c => rRgI (ad0 c) (y.n 1) size tz (y.n 1 + 1)) fun z =>
  .cons (fun _ => rC1B top P₀ (wOf x y b tb) (z.n 2) (m + 829) (z.n 0 + 1) (z.n 0) (m + 830) [] 0 0 0 (x.n 14) 0 size (fun z => dicO [eP P₀ "k" (z 9 1) (.int 0 (z 9 2))] 1) (fun z => lstO (vals (fun _ => ⟨⟨[]⟩⟩) (z 0) size) 8) 99) fun u =>
  .cons (fun c => rAdd (ad0 c) (ad1 c) (vals (fun _ => ⟨⟨[]⟩⟩) (u.m 0) size) [.str ⟨⟨[124]⟩⟩ (u.n 1)] 8 0) fun _ => .nil
end Mine
end
end
section
open PySem PySem.W PySem.W.X PyProof.Rows PySem.Calls
noncomputable section
namespace Mine
/-! _law_by_one: its frame -/
structure FO where
  L : Addr
  cl : Addr
  f0 : Nat
  f1 : Nat
  f2 : Nat
  f3 : Nat
  v0 : Value
  tab : Addr
  v2 : Value
  v3 : Value
noncomputable def FO.env (O : FO) (top : KT) : Env := fEnv top 816 "_law_by_one.<locals>." O.L [(.ofString "line", O.cl)]
noncomputable def FO.fr (O : FO) (P₀ : Params) (kx : List DictEntry) (n : Nat) : Obj := frmO (eP P₀ "text" O.f0 O.v0 :: eP P₀ "table" O.f1 (.ref O.tab) :: eP P₀ "steps" O.f2 O.v2 :: eP P₀ "size" O.f3 O.v3 :: kx) n #[]
/-! the words laid into the line -/
noncomputable def cPu (top : KT) (O : FO) (it : Addr) : Code := forC (nthS (stmtsOf (fnOf top 816)) 1) (.ref it) (O.env top)
noncomputable def rPuL (top : KT) (P₀ : Params) (W : NX) (O : FO) (it l : Addr) (xs : List Value) (n i : Nat) (kx : List DictEntry) (nn : Nat) (ys : List Value) (k : Nat) (fin : List Value) (kf : Nat) (lv : Value) : Rc :=
  { code := cPu top O it, lvl := 690, pre := (it, liO l i) :: (l, lstO xs n) :: (O.cl, celO (.ref W.ln)) :: (O.L, O.fr P₀ kx nn) :: W.line ys k,
    post := fun z => z.o 0 :: lstO xs n :: celO (.ref W.ln) :: O.fr P₀ [eP P₀ "word" (z.m 0 0) lv] 5 :: snds (W.line fin kf), new := fun _ => [], res := fun _ => .ok .next }
noncomputable def rPuE (top : KT) (P₀ : Params) (W : NX) (O : FO) (it l : Addr) (xs : List Value) (n i : Nat) (t4 : Nat) (v4 : Value) (ys : List Value) (k : Nat) : Rc := rPuL top P₀ W O it l xs n i [eP P₀ "word" t4 v4] 5 ys k ys k v4
noncomputable def rPuER (top : KT) (P₀ : Params) (W : NX) (O : FO) (it l : Addr) (xs : List Value) (n i : Nat) (t4 : Nat) (v4 : Value) (ys : List Value) (k : Nat) (m tk : Nat) : Rcs := .cons (fun _ => rLiE it l xs n i) fun _ => .nil
noncomputable def rPuS (top : KT) (P₀ : Params) (W : NX) (O : FO) (it l : Addr) (xs : List Value) (n i : Nat) (s : Str) (t : Nat) (ys : List Value) (k : Nat) (fin : List Value) (kf : Nat) (lv : Value) (t4 : Ov → Nat) : Rcs :=
  .cons (fun _ => rLiN it l xs n i (.str s t)) fun z => .cons (fun _ => rNPush W ys s t k) fun _ => .cons (fun _ => rPuL top P₀ W O it l xs n (i + 1) [eP P₀ "word" (t4 z) (.str s t)] 5 (ys ++ [.str s t]) (k + 1) fin kf lv) fun _ => .nil
noncomputable def rPuF (top : KT) (P₀ : Params) (W : NX) (O : FO) (it l : Addr) (xs : List Value) (n i : Nat) (s : Str) (t : Nat) (ys : List Value) (k : Nat) (fin : List Value) (kf : Nat) (lv : Value) : Rc := rPuL top P₀ W O it l xs n i [] 4 ys k fin kf lv
noncomputable def rPuFR (top : KT) (P₀ : Params) (W : NX) (O : FO) (it l : Addr) (xs : List Value) (n i : Nat) (s : Str) (t : Nat) (ys : List Value) (k : Nat) (fin : List Value) (kf : Nat) (lv : Value) (m tk : Nat) : Rcs := rPuS top P₀ W O it l xs n i s t ys k fin kf lv fun z => z.n 1
noncomputable def rPuT (top : KT) (P₀ : Params) (W : NX) (O : FO) (it l : Addr) (xs : List Value) (n i : Nat) (s : Str) (t t4 : Nat) (v4 : Value) (ys : List Value) (k : Nat) (fin : List Value) (kf : Nat) (lv : Value) : Rc := rPuL top P₀ W O it l xs n i [eP P₀ "word" t4 v4] 5 ys k fin kf lv
noncomputable def rPuTR (top : KT) (P₀ : Params) (W : NX) (O : FO) (it l : Addr) (xs : List Value) (n i : Nat) (s : Str) (t t4 : Nat) (v4 : Value) (ys : List Value) (k : Nat) (fin : List Value) (kf : Nat) (lv : Value) (m tk : Nat) : Rcs := rPuS top P₀ W O it l xs n i s t ys k fin kf lv fun z => t4
end Mine
end
end
section
open PySem PySem.W PySem.W.X PyProof.Rows PySem.Calls
noncomputable section
namespace Mine
/-! _law_by_one: the machine's turns -/
structure OT where
  W : NX
  O : FO
  it : Addr
  sn : Addr
  tt : List Value
  nt : Nat
  t4 : Nat
  v4 : Value
  t5 : Nat
  t6 : Nat
  t7 : Nat
  vk : Value
  t8 : Nat
  v8 : Value
  t9 : Nat
  v9 : Value
  ss : List Value
  q : Nat
  s : Str
  t : Nat
  xs : List Value
  k : Nat
  c : Nat
  r : Nat
  st : Int
  ts : Nat
  x : Int
  tx : Nat
  ww : Str
  ls : Str
  lt : Nat
  A : Nat → List Value
  kA : Nat
  mu : Nat
  B : Nat → Nat → Nat → List Value
  kB : Nat
  mu2 : Nat
  F : Nat → MM → Obj
noncomputable def cOn (top : KT) (O : FO) (it : Addr) : Code := forC (nthS (stmtsOf (fnOf top 816)) 3) (.ref it) (O.env top)
noncomputable def bar : Str := .mk ⟨[124]⟩
noncomputable def sw0 : Str := .mk ⟨w0⟩
noncomputable def kF (P₀ : Params) (t4 t5 t6 : Nat) (v4 v5 v6 : Value) : List DictEntry := [eP P₀ "word" t4 v4, eP P₀ "seen" t6 v6, eP P₀ "state" t5 v5]
noncomputable def kL (P₀ : Params) (t4 t5 t6 t7 t8 t9 : Nat) (v4 v5 v6 v7 v8 v9 : Value) : List DictEntry := [eP P₀ "word" t4 v4, eP P₀ "seen" t6 v6, eP P₀ "state" t5 v5, eP P₀ "k" t7 v7, eP P₀ "written" t8 v8, eP P₀ "onward" t9 v9]
noncomputable def rOnL (top : KT) (P₀ : Params) (W : NX) (O : FO) (it sn : Addr) (tt : List Value) (nt : Nat) (kx : List DictEntry) (nn : Nat) (ss : List Value) (q : Nat) (xs : List Value) (k c r : Nat) (F : Nat → MM → Obj) : Rc :=
  { code := cOn top O it, lvl := 690, pre := (it, rgItO c r) :: (sn, lstO ss q) :: (O.tab, lstO tt nt) :: (O.cl, celO (.ref W.ln)) :: (O.L, O.fr P₀ kx nn) :: W.line xs k,
    post := fun z => [z.o 0, F 0 z.m, lstO tt nt, celO (.ref W.ln), F 1 z.m, oNx W.dl, nxD W.h1 W.k1 W.tl1 W.tw1 (.ref W.sr) W.pb [] 4, F 2 z.m], new := fun _ => [], res := fun _ => .ok .next }
noncomputable def rOnE (top : KT) (P₀ : Params) (W : NX) (O : FO) (it sn : Addr) (tt : List Value) (nt : Nat) (kx : List DictEntry) (nn : Nat) (ss : List Value) (q : Nat) (xs : List Value) (k c : Nat) : Rc :=
  rOnL top P₀ W O it sn tt nt kx nn ss q xs k c 0 fun i _ => match i with | 0 => lstO ss q | 1 => O.fr P₀ kx nn | _ => lstO xs k
noncomputable def rOnER (top : KT) (P₀ : Params) (W : NX) (O : FO) (it sn : Addr) (tt : List Value) (nt : Nat) (kx : List DictEntry) (nn : Nat) (ss : List Value) (q : Nat) (xs : List Value) (k c : Nat) (m tk : Nat) : Rcs := .nil
/-- behind the turn: the words, the tokens -/
noncomputable def OT.rest (top : KT) (P₀ : Params) (X : OT) (on : Bool) (wd : Str) (tw : Nat) (t7 t8 t9 : Nat) (z0 zr : Ov) (xs : List Value) (k : Nat) : Rcs :=
  .cons (fun _ => rOnL top P₀ X.W X.O X.it X.sn X.tt X.nt (kL P₀ X.t4 X.t5 X.t6 t7 t8 t9 (.str wd tw) (.int (X.x / 8) (zr.n 4)) (.ref X.sn) (.int (Int.ofNat X.c) (z0.n 2)) (.str X.ww (zr.n 3)) (.bool on)) 10 (X.ss ++ [Value.str wd tw]) (X.q + 1) xs k (X.c + 1) X.r X.F) fun _ => .nil
noncomputable def OT.late (top : KT) (P₀ : Params) (X : OT) (wd : Str) (tw : Nat) (t7 t8 t9 : Nat) (z0 zr : Ov) (tb tq : Nat) (xs : List Value) (k : Nat) : Rcs :=
  .cons (fun _ => rNPush X.W xs X.ww (zr.n 3) k) fun _ => .cons (fun _ => rLenL X.W.pb (xs ++ [Value.str X.ww (zr.n 3)]) (k + 1)) fun _ =>
  .cons (fun cd => rBin "int.__sub__" (Int.ofNat (xs ++ [Value.str X.ww (zr.n 3)]).length) 2 (tk0 cd) (tk1 cd) (Int.ofNat X.mu2)) fun _ =>
  .cons (fun cd => rRound top P₀ X.W (xs ++ [Value.str X.ww (zr.n 3)]) (k + 1) X.mu2 (tk1 cd) (X.B tb tq (zr.n 3)) X.kB) fun _ => X.rest top P₀ false wd tw t7 t8 t9 z0 zr (X.B tb tq (zr.n 3)) X.kB
noncomputable def OT.mid (top : KT) (P₀ : Params) (X : OT) (on lb : Bool) (wd : Str) (tw : Nat) (fst : Bool) (z0 : Ov) (tb : Nat) (xs : List Value) (k : Nat) : Rcs :=
  .cons (fun _ => rApp X.sn X.ss X.q (.str wd tw)) fun _ =>
  .cons (fun _ => rRule X.O.tab X.tt X.nt X.st X.ts tw X.x X.tx X.ww on wd) fun zr =>
  match on with
  | true => .cons (fun _ => rNPush X.W xs X.ww (zr.n 3) k) fun zp => X.rest top P₀ true wd tw (bif fst then z0.n 1 else X.t7) (bif fst then zr.n 1 else X.t8) (bif fst then zr.n 1 + 1 else X.t9) z0 zr (xs ++ [Value.str X.ww (zr.n 3)]) (k + 1)
  | false => .cons (fun cd => rLast X.W.pb xs k (tk1 cd) (.str X.ls X.lt)) fun zl => .cons (fun cd => rSeq X.ls bar (tk0 cd) (tk1 cd) lb) fun zs =>
    match lb with
    | true => .cons (fun cd => rNPush X.W xs sw0 (tk1 cd) k) fun zq => X.late top P₀ wd tw (bif fst then z0.n 1 else X.t7) (bif fst then zr.n 1 else X.t8) (bif fst then zr.n 1 + 1 else X.t9) z0 zr tb (zs.n 1) (xs ++ [Value.str sw0 (zs.n 1)]) (k + 1)
    | false => X.late top P₀ wd tw (bif fst then z0.n 1 else X.t7) (bif fst then zr.n 1 else X.t8) (bif fst then zr.n 1 + 1 else X.t9) z0 zr tb 0 xs k
noncomputable def OT.run (top : KT) (P₀ : Params) (X : OT) (br on lb fst : Bool) : Rcs :=
  .cons (fun _ => rRgN X.it X.c X.r) fun z0 => .cons (fun _ => rNPop X.W X.xs X.s X.t X.k) fun z1 => .cons (fun cd => rSeq X.s bar (tk0 cd) (tk1 cd) br) fun z2 =>
  match br with
  | false => X.mid top P₀ on lb X.s X.t fst z0 0 X.xs (X.k + 1)
  | true => .cons (fun cd => rNPush X.W X.xs bar (tk1 cd) (X.k + 1)) fun z3 =>
    .cons (fun _ => rLenL X.W.pb (X.xs ++ [Value.str bar (z2.n 1)]) (X.k + 2)) fun z4 =>
    .cons (fun cd => rBin "int.__sub__" (Int.ofNat (X.xs ++ [Value.str bar (z2.n 1)]).length) 1 (tk0 cd) (tk1 cd) (Int.ofNat X.mu)) fun z5 =>
    .cons (fun cd => rRound top P₀ X.W (X.xs ++ [Value.str bar (z2.n 1)]) (X.k + 2) X.mu (tk1 cd) (X.A (z2.n 1)) X.kA) fun z6 => X.mid top P₀ on lb sw0 (z6.n 1) fst z0 (z2.n 1) (X.A (z2.n 1)) X.kA
noncomputable def rOnT (top : KT) (P₀ : Params) (X : OT) : Rc := rOnL top P₀ X.W X.O X.it X.sn X.tt X.nt (kL P₀ X.t4 X.t5 X.t6 X.t7 X.t8 X.t9 X.v4 (.int X.st X.ts) (.ref X.sn) X.vk X.v8 X.v9) 10 X.ss X.q (.str X.s X.t :: X.xs) X.k X.c (X.r + 1) X.F
noncomputable def rOnF (top : KT) (P₀ : Params) (X : OT) : Rc := rOnL top P₀ X.W X.O X.it X.sn X.tt X.nt (kF P₀ X.t4 X.t5 X.t6 X.v4 (.int X.st X.ts) (.ref X.sn)) 7 X.ss X.q (.str X.s X.t :: X.xs) X.k X.c (X.r + 1) X.F
noncomputable def rOnT0 (top : KT) (P₀ : Params) (X : OT) : Rc := rOnT top P₀ X
noncomputable def rOnT1 (top : KT) (P₀ : Params) (X : OT) : Rc := rOnT top P₀ X
noncomputable def rOnT2 (top : KT) (P₀ : Params) (X : OT) : Rc := rOnT top P₀ X
noncomputable def rOnT3 (top : KT) (P₀ : Params) (X : OT) : Rc := rOnT top P₀ X
noncomputable def rOnT4 (top : KT) (P₀ : Params) (X : OT) : Rc := rOnT top P₀ X
noncomputable def rOnT5 (top : KT) (P₀ : Params) (X : OT) : Rc := rOnT top P₀ X
noncomputable def rOnF0 (top : KT) (P₀ : Params) (X : OT) : Rc := rOnF top P₀ X
noncomputable def rOnF1 (top : KT) (P₀ : Params) (X : OT) : Rc := rOnF top P₀ X
noncomputable def rOnT0R (top : KT) (P₀ : Params) (X : OT) (m tk : Nat) : Rcs := X.run top P₀ false true false false
noncomputable def rOnT1R (top : KT) (P₀ : Params) (X : OT) (m tk : Nat) : Rcs := X.run top P₀ false false true false
noncomputable def rOnT2R (top : KT) (P₀ : Params) (X : OT) (m tk : Nat) : Rcs := X.run top P₀ false false false false
noncomputable def rOnT3R (top : KT) (P₀ : Params) (X : OT) (m tk : Nat) : Rcs := X.run top P₀ true true false false
noncomputable def rOnT4R (top : KT) (P₀ : Params) (X : OT) (m tk : Nat) : Rcs := X.run top P₀ true false true false
noncomputable def rOnT5R (top : KT) (P₀ : Params) (X : OT) (m tk : Nat) : Rcs := X.run top P₀ true false false false
noncomputable def rOnF0R (top : KT) (P₀ : Params) (X : OT) (m tk : Nat) : Rcs := X.run top P₀ false true false true
noncomputable def rOnF1R (top : KT) (P₀ : Params) (X : OT) (m tk : Nat) : Rcs := X.run top P₀ false false true true
end Mine
end
end
section
open PySem PySem.W PySem.W.X PyProof.Rows PySem.Calls
noncomputable section
namespace Mine
/-! _law_by_one as a whole -/
structure OW where
  b : Str
  tb : Nat
  tab : Addr
  tt : List Value
  nt : Nat
  st : Nat
  ts : Nat
  size : Nat
  tz : Nat
  XS : MM → List Value
  pf : Nat
  kf : Nat
  SS : MM → List Value
  q : Nat
  SF : Int
  PB : MM → List (Str × Nat)
  kB : Nat
  V : Nat → MM → Value
  j : Nat
noncomputable def finF (P₀ : Params) (O : FO) (sn : Addr) (X : OW) : Nat → MM → Obj := fun i m => match i with
  | 0 => lstO (X.SS m) X.q
  | 1 => O.fr P₀ (kL P₀ (m 1 0) (m 1 1) (m 1 2) (m 1 3) (m 1 4) (m 1 5) (X.V 0 m) (.int X.SF (m 1 6)) (.ref sn) (X.V 1 m) (X.V 2 m) (X.V 3 m)) 10
  | _ => lstO (txts (X.PB m)) X.kB
noncomputable def rOne (top : KT) (P₀ : Params) (X : OW) : Rc :=
  { code := .call (.ref 816) ⟨[.str X.b X.tb, .ref X.tab, .int (Int.ofNat X.st) X.ts, .int (Int.ofNat X.size) X.tz], []⟩, lvl := 640, pre := [(785, tab0), (X.tab, lstO X.tt X.nt)], post := fun z => [tab1 (z.n 9), lstO X.tt X.nt],
    new := fun z => [(z.n 2, tupO [.ref (z.n 3), .int X.SF (z.n 4), .ref (z.n 5), .ref (z.n 6)]), (z.n 3, lstO (X.SS z.m) X.q), (z.n 5, lstO ((txts (X.PB z.m)).drop (X.j + 1)) 0), (z.n 6, lstO ((txts (X.PB z.m)).take X.j) 0)], res := fun z => .ok (.ret (.ref (z.n 2))) }
noncomputable def foOf (X : OW) (m tk : Nat) : FO := { L := m + 829, cl := m + 830, f0 := tk, f1 := tk + 1, f2 := tk + 2, f3 := tk + 3, v0 := .str X.b X.tb, tab := X.tab, v2 := .int (Int.ofNat X.st) X.ts, v3 := .int (Int.ofNat X.size) X.tz }
noncomputable def rOneR (top : KT) (P₀ : Params) (X : OW) (m tk : Nat) : Rcs :=
  .cons (fun _ => rStream top X.b X.tb) fun x => .cons (fun _ => rLine (x.n 2)) fun y => .cons (fun c => rRgI (ad0 c) (y.n 1) X.size X.tz (y.n 1 + 1)) fun z =>
  .cons (fun _ => rC1B top P₀ (wOf x y X.b X.tb) (z.n 2) (m + 829) (z.n 0 + 1) (z.n 0) (m + 830) [] 0 0 0 (x.n 14) 0 X.size (fun z => dicO [eP P₀ "k" (z 9 1) (.int (Int.ofNat (X.size - 1)) (z 9 2))] 1) (fun z => lstO (X.XS z) X.size) X.pf) fun u =>
  .cons (fun c => rAdd (ad0 c) (ad1 c) (X.XS u.m) [Value.str bar (u.n 1)] X.size 0) fun a =>
  .cons (fun _ => rPuL top P₀ (wOf x y X.b X.tb) (foOf X m tk) (a.n 0) (a.n 2) (X.XS u.m ++ [Value.str bar (u.n 1)]) 0 0 [] 4 [] 0 (X.XS u.m ++ [Value.str bar (u.n 1)]) X.kf (.str bar (u.n 1))) fun p =>
  .cons (fun c => rRgI (ad0 c) (p.n 1 + 3) X.st X.ts (p.n 1 + 4)) fun g =>
  .cons (fun _ => rOnL top P₀ (wOf x y X.b X.tb) (foOf X m tk) (g.n 2) (p.n 0) X.tt X.nt (kF P₀ (p.m 0 0) (p.n 1 + 2) (p.n 1 + 1) (.str bar (u.n 1)) (.int 0 (p.n 1)) (.ref (p.n 0))) 7 [] 0 (X.XS u.m ++ [Value.str bar (u.n 1)]) X.kf 0 X.st (finF P₀ (foOf X m tk) (p.n 0) X)) fun o =>
  .cons (fun c => rIndex (ad0 c) (X.PB o.m) X.kB bar (tk1 c) X.j) fun i =>
  .cons (fun c => rBin "int.__add__" (Int.ofNat X.j) 1 (tk0 c) (tk1 c) (Int.ofNat (X.j + 1))) fun d =>
  .cons (fun c => rSlice (ad0 c) (ad1 c) (txts (X.PB o.m)) ((txts (X.PB o.m)).drop (X.j + 1)) X.kB (.int (Int.ofNat (X.j + 1)) (d.n 2)) .none .none) fun e =>
  .cons (fun c => rSlice (ad0 c) (ad1 c) (txts (X.PB o.m)) ((txts (X.PB o.m)).take X.j) X.kB .none (.int (Int.ofNat X.j) (i.n 2)) .none) fun e => .nil
end Mine
end
end
section
open PySem PySem.W PySem.W.X PyProof.Rows PySem.Calls
noncomputable section
namespace Mine
/-! a posix lexer of shlex: its place, its state -/
structure LX where
  x : Addr
  dx : Addr
  y : Addr
  dy : Addr
  pb : Addr
  fs : Addr
  hx : Nat → Int
  kx : Nat → Nat
  vt : Nat → Nat
structure LV where
  s : Value
  t : Value
  yd : Obj
  sp : Int
  xs : List Value
noncomputable def LV.push (v : LV) (s : Str) (t : Nat) : LV := { v with sp := v.sp + 1, xs := .str s t :: v.xs }
noncomputable def LX.at (X : LX) (v : LV) : List (Addr × Obj) := [(X.x, oSh X.dx), (X.dx, shD X.hx X.kx X.vt X.y X.pb X.fs v.s v.t), (X.y, oSio X.dy), (X.dy, v.yd), (X.pb, dqO v.sp v.xs), (X.fs, dqO 0 [])]
noncomputable def LX.of (X : LX) (v : LV) : List Obj := [oSh X.dx, shD X.hx X.kx X.vt X.y X.pb X.fs v.s v.t, oSio X.dy, v.yd, dqO v.sp v.xs, dqO 0 []]
noncomputable def rG (X : LX) (v : LV) (v1 : Ov → LV) (res : Ov → Value) : Rc :=
  { code := .call (.ref 725) ⟨[.ref X.x], []⟩, lvl := 740, pre := X.at v, post := fun z => X.of (v1 z), new := fun _ => [], res := fun z => .ok (.ret (res z)) }
noncomputable def rP (X : LX) (v : LV) (s : Str) (t : Nat) : Rc :=
  { code := .call (.ref 703) ⟨[.ref X.x, .str s t], []⟩, lvl := 740, pre := X.at v, post := fun z => X.of (v.push s t), new := fun _ => [], res := fun z => .ok (.ret .none) }
/-! _law_by_two's turns -/
structure FT where
  L : Addr
  f0 : Nat
  f1 : Nat
  f2 : Nat
  f3 : Nat
  f4 : Nat
  f5 : Nat
  f6 : Nat
  v0 : Value
  tab : Addr
  v2 : Value
structure TT where
  O : FT
  R : LX
  Z : LX
  it : Addr
  sn : Addr
  tt : List Value
  nt : Nat
  t7 : Nat
  vk : Value
  t8 : Nat
  v8 : Value
  t9 : Nat
  v9 : Value
  ta : Nat
  va : Value
  ss : List Value
  q : Nat
  rv : LV
  rv1 : Ov → LV
  lv : LV
  lv1 : Ov → LV
  wd : Str
  wt : Ov → Nat
  ld : Str
  lt : Ov → Nat
  c : Nat
  r : Nat
  st : Int
  ts : Nat
  x : Int
  tx : Nat
  ww : Str
  F : Nat → MM → Obj
noncomputable def cTw (top : KT) (O : FT) (it : Addr) : Code := forC (nthS (stmtsOf (fnOf top 804)) 2) (.ref it) (fEnv top 804 "_law_by_two.<locals>." O.L [])
noncomputable def FT.fr (O : FT) (P₀ : Params) (R Z : LX) (sn : Addr) (st : Int) (ts : Nat) (kx : List DictEntry) (n : Nat) : Obj :=
  frmO (eP P₀ "text" O.f0 O.v0 :: eP P₀ "table" O.f1 (.ref O.tab) :: eP P₀ "steps" O.f2 O.v2 :: eP P₀ "right" O.f3 (.ref R.x) :: eP P₀ "left" O.f4 (.ref Z.x) :: eP P₀ "seen" O.f5 (.ref sn) :: eP P₀ "state" O.f6 (.int st ts) :: kx) n #[]
noncomputable def kT (P₀ : Params) (t7 t8 t9 ta : Nat) (v7 v8 v9 va : Value) : List DictEntry := [eP P₀ "k" t7 v7, eP P₀ "word" t8 v8, eP P₀ "written" t9 v9, eP P₀ "onward" ta va]
noncomputable def rTwL (top : KT) (P₀ : Params) (O : FT) (R Z : LX) (it sn : Addr) (tt : List Value) (nt : Nat) (st : Int) (ts : Nat) (kx : List DictEntry) (nn : Nat) (ss : List Value) (q : Nat) (rv lv : LV) (c r : Nat) (F : Nat → MM → Obj) : Rc :=
  { code := cTw top O it, lvl := 690, pre := (it, rgItO c r) :: (sn, lstO ss q) :: (O.tab, lstO tt nt) :: (O.L, O.fr P₀ R Z sn st ts kx nn) :: (R.at rv ++ Z.at lv),
    post := fun z => [z.o 0, F 0 z.m, lstO tt nt, F 1 z.m, oSh R.dx, F 2 z.m, oSio R.dy, F 3 z.m, F 4 z.m, dqO 0 [], oSh Z.dx, F 5 z.m, oSio Z.dy, F 6 z.m, F 7 z.m, dqO 0 []], new := fun _ => [], res := fun _ => .ok .next }
noncomputable def nowF (P₀ : Params) (O : FT) (R Z : LX) (sn : Addr) (st : Int) (ts : Nat) (kx : List DictEntry) (nn : Nat) (ss : List Value) (q : Nat) (rv lv : LV) (i : Nat) : Obj := match i with
  | 0 => lstO ss q
  | 1 => O.fr P₀ R Z sn st ts kx nn
  | 2 => shD R.hx R.kx R.vt R.y R.pb R.fs rv.s rv.t
  | 3 => rv.yd
  | 4 => dqO rv.sp rv.xs
  | 5 => shD Z.hx Z.kx Z.vt Z.y Z.pb Z.fs lv.s lv.t
  | 6 => lv.yd
  | _ => dqO lv.sp lv.xs
noncomputable def rTwE (top : KT) (P₀ : Params) (O : FT) (R Z : LX) (it sn : Addr) (tt : List Value) (nt : Nat) (st : Int) (ts : Nat) (kx : List DictEntry) (nn : Nat) (ss : List Value) (q : Nat) (rv lv : LV) (c : Nat) : Rc :=
  rTwL top P₀ O R Z it sn tt nt st ts kx nn ss q rv lv c 0 fun i _ => nowF P₀ O R Z sn st ts kx nn ss q rv lv i
noncomputable def rTwER (top : KT) (P₀ : Params) (O : FT) (R Z : LX) (it sn : Addr) (tt : List Value) (nt : Nat) (st : Int) (ts : Nat) (kx : List DictEntry) (nn : Nat) (ss : List Value) (q : Nat) (rv lv : LV) (c : Nat) (m tk : Nat) : Rcs := .nil
noncomputable def TT.rest (top : KT) (P₀ : Params) (X : TT) (fst on : Bool) (wv : Value) (wd : Str) (tw : Nat) (z0 z1 zr : Ov) (rv lv : LV) : Rcs :=
  .cons (fun _ => rTwL top P₀ X.O X.R X.Z X.it X.sn X.tt X.nt (X.x / 8) (zr.n 4) (kT P₀ (bif fst then z0.n 1 else X.t7) (bif fst then z1.n 1 else X.t8) (bif fst then zr.n 1 else X.t9) (bif fst then zr.n 1 + 1 else X.ta) (.int (Int.ofNat X.c) (z0.n 2)) wv (.str X.ww (zr.n 3)) (.bool on)) 11 (X.ss ++ [Value.str wd tw]) (X.q + 1) rv lv (X.c + 1) X.r X.F) fun _ => .nil
noncomputable def TT.mid (top : KT) (P₀ : Params) (X : TT) (fst on ls : Bool) (wv : Value) (wd : Str) (tw : Nat) (z0 z1 : Ov) : Rcs :=
  .cons (fun _ => rApp X.sn X.ss X.q (.str wd tw)) fun _ =>
  .cons (fun cd => rLast X.sn (X.ss ++ [Value.str wd tw]) (X.q + 1) (tk1 cd) (.str wd tw)) fun _ =>
  .cons (fun _ => rRule X.O.tab X.tt X.nt X.st X.ts tw X.x X.tx X.ww on wd) fun zr =>
  match on with
  | true => .cons (fun _ => rP X.Z X.lv X.ww (zr.n 3)) fun _ => X.rest top P₀ fst true wv wd tw z0 z1 zr (X.rv1 z1) (X.lv.push X.ww (zr.n 3))
  | false => .cons (fun _ => rP X.R (X.rv1 z1) X.ww (zr.n 3)) fun _ => match ls with
    | true => .cons (fun _ => rG X.Z X.lv X.lv1 fun z => .str X.ld (X.lt z)) fun zg => .cons (fun _ => rP X.R ((X.rv1 z1).push X.ww (zr.n 3)) X.ld (X.lt zg)) fun _ => X.rest top P₀ fst false (.str X.ld (X.lt zg)) wd tw z0 z1 zr (((X.rv1 z1).push X.ww (zr.n 3)).push X.ld (X.lt zg)) (X.lv1 zg)
    | false => .cons (fun _ => rG X.Z X.lv X.lv1 fun z => .none) fun zg => .cons (fun _ => rP X.R ((X.rv1 z1).push X.ww (zr.n 3)) sw0 (zg.n 1 + 1)) fun _ => X.rest top P₀ fst false .none wd tw z0 z1 zr (((X.rv1 z1).push X.ww (zr.n 3)).push sw0 (zg.n 1 + 1)) (X.lv1 zg)
noncomputable def TT.run (top : KT) (P₀ : Params) (X : TT) (fst ws on ls : Bool) : Rcs :=
  .cons (fun _ => rRgN X.it X.c X.r) fun z0 => match ws with
  | true => .cons (fun _ => rG X.R X.rv X.rv1 fun z => .str X.wd (X.wt z)) fun z1 => X.mid top P₀ fst on ls (.str X.wd (X.wt z1)) X.wd (X.wt z1) z0 z1
  | false => .cons (fun _ => rG X.R X.rv X.rv1 fun z => .none) fun z1 => X.mid top P₀ fst on ls .none sw0 (z1.n 1 + 1) z0 z1
noncomputable def rTwT (top : KT) (P₀ : Params) (X : TT) : Rc := rTwL top P₀ X.O X.R X.Z X.it X.sn X.tt X.nt X.st X.ts (kT P₀ X.t7 X.t8 X.t9 X.ta X.vk X.v8 X.v9 X.va) 11 X.ss X.q X.rv X.lv X.c (X.r + 1) X.F
noncomputable def rTwF (top : KT) (P₀ : Params) (X : TT) : Rc := rTwL top P₀ X.O X.R X.Z X.it X.sn X.tt X.nt X.st X.ts [] 7 X.ss X.q X.rv X.lv X.c (X.r + 1) X.F
noncomputable def rTwT0 (top : KT) (P₀ : Params) (X : TT) : Rc := rTwT top P₀ X
noncomputable def rTwT0R (top : KT) (P₀ : Params) (X : TT) (m tk : Nat) : Rcs := X.run top P₀ false true true true
noncomputable def rTwT1 (top : KT) (P₀ : Params) (X : TT) : Rc := rTwT top P₀ X
noncomputable def rTwT1R (top : KT) (P₀ : Params) (X : TT) (m tk : Nat) : Rcs := X.run top P₀ false true false true
noncomputable def rTwT2 (top : KT) (P₀ : Params) (X : TT) : Rc := rTwT top P₀ X
noncomputable def rTwT2R (top : KT) (P₀ : Params) (X : TT) (m tk : Nat) : Rcs := X.run top P₀ false true false false
noncomputable def rTwT3 (top : KT) (P₀ : Params) (X : TT) : Rc := rTwT top P₀ X
noncomputable def rTwT3R (top : KT) (P₀ : Params) (X : TT) (m tk : Nat) : Rcs := X.run top P₀ false false true true
noncomputable def rTwT4 (top : KT) (P₀ : Params) (X : TT) : Rc := rTwT top P₀ X
noncomputable def rTwT4R (top : KT) (P₀ : Params) (X : TT) (m tk : Nat) : Rcs := X.run top P₀ false false false true
noncomputable def rTwT5 (top : KT) (P₀ : Params) (X : TT) : Rc := rTwT top P₀ X
noncomputable def rTwT5R (top : KT) (P₀ : Params) (X : TT) (m tk : Nat) : Rcs := X.run top P₀ false false false false
noncomputable def rTwF0 (top : KT) (P₀ : Params) (X : TT) : Rc := rTwF top P₀ X
noncomputable def rTwF0R (top : KT) (P₀ : Params) (X : TT) (m tk : Nat) : Rcs := X.run top P₀ true true true true
noncomputable def rTwF1 (top : KT) (P₀ : Params) (X : TT) : Rc := rTwF top P₀ X
noncomputable def rTwF1R (top : KT) (P₀ : Params) (X : TT) (m tk : Nat) : Rcs := X.run top P₀ true true false false
end Mine
end
end
section
open PySem PySem.W PySem.W.X PyProof.Rows PySem.Calls
noncomputable section
namespace Mine
/-! _law_by_two as a whole -/
structure OU where
  b : Str
  tb : Nat
  tab : Addr
  tt : List Value
  nt : Nat
  st : Nat
  ts : Nat
  SS : (Nat → Nat) → List Value
  q : Nat
  SF : Int
  RV : MM → LV
  LE : MM → LV
  V : Nat → MM → Value
  DL : (Nat → Nat) → List Value
  DR : (Nat → Nat) → List Value
  nl : Nat
  nr : Nat
  E1 : Env
  L1 : Addr
  F1 : Obj
noncomputable def slo (F o : Obj) : Obj := { F with slots := o.slots }
noncomputable def lexOf (z : Ov) : LX := { x := z.n 2, dx := z.n 3, y := z.n 4, dy := z.n 9, pb := z.n 5, fs := z.n 6, hx := hashAt (z.o 0), kx := kts z 20, vt := kts z 50 }
noncomputable def lexV (z : Ov) (b : Str) (tb : Nat) : LV := { s := st1 32 (z.n 7), t := emptyT (z.n 8), yd := sioD (hashAt (z.o 1)) (kts z 70) b tb 0 (z.n 10), sp := 0, xs := [] }
noncomputable def finT (P₀ : Params) (O : FT) (R Z : LX) (sn : Addr) (X : OU) : Nat → MM → Obj := fun i m => nowF P₀ O R Z sn X.SF (m 1 0) (kT P₀ (m 1 1) (m 1 2) (m 1 3) (m 1 4) (X.V 0 m) (X.V 1 m) (X.V 2 m) (X.V 3 m)) 11 (X.SS (m 0)) X.q (X.RV m) (X.LE m) i
/-- list(lexer) -/
noncomputable def rLs (X : LX) (v : LV) (D : (Nat → Nat) → List Value) (n : Nat) (E2 E1 : Env) (L2 L1 : Addr) (F2 F1 : Obj) : Rc :=
  { code := .call (.type "list") ⟨[.ref X.x], []⟩, lvl := 690, fr := some [E2, E1], pre := X.at v ++ [(L2, F2), (L1, F1)], post := fun z => [z.o 0, z.o 1, z.o 2, z.o 3, z.o 4, z.o 5, slo F2 (z.o 6), slo F1 (z.o 7)], new := fun z => [(z.n 2, lstO (D (z.m 0)) n)], res := fun z => .ok (.ret (.ref (z.n 2))) }
noncomputable def rTwo (top : KT) (P₀ : Params) (X : OU) : Rc :=
  { code := .call (.ref 804) ⟨[.str X.b X.tb, .ref X.tab, .int (Int.ofNat X.st) X.ts], []⟩, lvl := 640, fr := some [X.E1], pre := [(X.tab, lstO X.tt X.nt), (X.L1, X.F1)], post := fun z => [lstO X.tt X.nt, slo X.F1 (z.o 0)],
    new := fun z => [(z.n 2, tupO [.ref (z.n 3), .int X.SF (z.n 4), .ref (z.n 5), .ref (z.n 6)]), (z.n 3, lstO (X.SS (z.m 0)) X.q), (z.n 5, lstO (X.DL (z.m 2)).reverse 0), (z.n 6, lstO (X.DR (z.m 3)) X.nr)], res := fun z => .ok (.ret (.ref (z.n 2))) }
noncomputable def ftOf (X : OU) (m tk : Nat) (y z : Ov) : FT := { L := m + 829, f0 := tk, f1 := tk + 1, f2 := tk + 2, f3 := z.n 1, f4 := z.n 1 + 1, f5 := z.n 1 + 3, f6 := z.n 1 + 4, v0 := .str X.b X.tb, tab := X.tab, v2 := .int (Int.ofNat X.st) X.ts }
noncomputable def envTw (top : KT) (L : Addr) : Env := fEnv top 804 "_law_by_two.<locals>." L []
noncomputable def rTwoR (top : KT) (P₀ : Params) (X : OU) (m tk : Nat) : Rcs :=
  .cons (fun _ => rShNew ⟨⟨[]⟩⟩ (tk + 3)) fun y => .cons (fun _ => rShNew X.b X.tb) fun z =>
  .cons (fun c => rRgI (ad0 c) (z.n 1 + 5) X.st X.ts (z.n 1 + 6)) fun g =>
  .cons (fun _ => rTwL top P₀ (ftOf X m tk y z) (lexOf z) (lexOf y) (g.n 2) (z.n 0 + 4) X.tt X.nt 0 (z.n 1 + 2) [] 7 [] 0 (lexV z X.b X.tb) (lexV y ⟨⟨[]⟩⟩ (tk + 3)) 0 X.st (finT P₀ (ftOf X m tk y z) (lexOf z) (lexOf y) (z.n 0 + 4) X)) fun o =>
  .cons (fun _ => rLs (lexOf y) (X.LE o.m) X.DL X.nl (envTw top (m + 829)) X.E1 (m + 829) X.L1 (finT P₀ (ftOf X m tk y z) (lexOf z) (lexOf y) (z.n 0 + 4) X 1 o.m) X.F1) fun dl =>
  .cons (fun c => rSlice (dl.n 2) (ad1 c) (X.DL (dl.m 0)) (X.DL (dl.m 0)).reverse X.nl .none .none (.int (-1) (dl.n 1 + 1))) fun e =>
  .cons (fun _ => rLs (lexOf z) (X.RV o.m) X.DR X.nr (envTw top (m + 829)) X.E1 (m + 829) X.L1 (slo (finT P₀ (ftOf X m tk y z) (lexOf z) (lexOf y) (z.n 0 + 4) X 1 o.m) (dl.o 6)) (slo X.F1 (dl.o 7))) fun dr => .nil
end Mine
end
end
section
open PySem PySem.W PySem.W.X PyProof.Rows PySem.Calls
noncomputable section
namespace Mine
/-! list(lexer) -/
noncomputable def rLxL (X : LX) (v : LV) (l : Addr) (ys : List Value) (k : Nat) (D : (Nat → Nat) → List Value) (n : Nat) (E2 E1 : Env) (L2 L1 : Addr) (F2 F1 : Obj) : Rc :=
  { code := .builtin "list.extend.loop" ⟨[.ref l, .ref X.x, .none], []⟩, lvl := 710, fr := some [E2, E1], pre := (l, lstO ys k) :: (X.at v ++ [(L2, F2), (L1, F1)]), post := fun z => [lstO (D (z.m 0)) n, z.o 0, z.o 1, z.o 2, z.o 3, z.o 4, z.o 5, slo F2 (z.o 6), slo F1 (z.o 7)], new := fun _ => [], res := fun z => .ok (.ret .none) }
noncomputable def rLxT3 (X : LX) (v : LV) (l : Addr) (V : Nat → Value) (k : Nat) (v1 : Ov → LV) (wd : Str) (wt : Ov → Nat) (D : (Nat → Nat) → List Value) (n : Nat) (E2 E1 : Env) (L2 L1 : Addr) (F2 F1 : Obj) : Rc := rLxL X v l (valsV V 3) k D n E2 E1 L2 L1 F2 F1
noncomputable def rLxTR (X : LX) (v : LV) (l : Addr) (ys : List Value) (k : Nat) (v1 : Ov → LV) (wd : Str) (wt : Ov → Nat) (D : (Nat → Nat) → List Value) (n : Nat) (E2 E1 : Env) (L2 L1 : Addr) (F2 F1 : Obj) (m tk : Nat) : Rcs :=
  .cons (fun _ => rG X v v1 fun z => .str wd (wt z)) fun z => .cons (fun _ => rLxL X (v1 z) l (ys ++ [Value.str wd (wt z)]) (k + 1) D n E2 E1 L2 L1 F2 F1) fun _ => .nil
noncomputable def rLxT3R (X : LX) (v : LV) (l : Addr) (V : Nat → Value) (k : Nat) (v1 : Ov → LV) (wd : Str) (wt : Ov → Nat) (D : (Nat → Nat) → List Value) (n : Nat) (E2 E1 : Env) (L2 L1 : Addr) (F2 F1 : Obj) (m tk : Nat) : Rcs := rLxTR X v l (valsV V 3) k v1 wd wt D n E2 E1 L2 L1 F2 F1 m tk
noncomputable def adB (c : Code) : Nat := match c with | .builtin _ a => adrV (nthV a.pos 0) | _ => 0
noncomputable def rLInit (X : LX) (v : LV) (l : Addr) (D : (Nat → Nat) → List Value) (n : Nat) (E2 E1 : Env) (L2 L1 : Addr) (F2 F1 : Obj) : Rc :=
  { code := .builtin "list.__init__" ⟨[.ref l, .ref X.x], []⟩, lvl := 700, fr := some [E2, E1], pre := (l, lstO [] 0) :: (X.at v ++ [(L2, F2), (L1, F1)]), post := fun z => [lstO (D (z.m 0)) n, z.o 0, z.o 1, z.o 2, z.o 3, z.o 4, z.o 5, slo F2 (z.o 6), slo F1 (z.o 7)], new := fun _ => [], res := fun z => .ok (.ret .none) }
noncomputable def rLsR (X : LX) (v : LV) (D : (Nat → Nat) → List Value) (n : Nat) (E2 E1 : Env) (L2 L1 : Addr) (F2 F1 : Obj) (m tk : Nat) : Rcs :=
  .cons (fun c => rLInit X v (adB c) D n E2 E1 L2 L1 F2 F1) fun _ => .nil
end Mine
end
end
section
open PySem PySem.W PySem.W.X PyProof.Rows PySem.Calls
noncomputable section
namespace Mine
/-- the kernel's part of a tree's contract -/
noncomputable def ChkT (P' : Params) (p : Program) (top : KT) (fuel : Nat) (r : Rc) (t : Sem Fin) (o : Nat) (R : Nat → Nat → Rcs) (is : List Nat) (X : WX) : Prop :=
  ∀ m tk xs, lhs (ev ⟨p, P'⟩ top false r.fr fuel r.lvl r.code .base t o (R m tk) xs (led0 r) (m + 829) tk [] []) is = rhs (ev ⟨p, P'⟩ top false r.fr fuel r.lvl r.code .base t o (R m tk) xs (led0 r) (m + 829) tk [] []) (fun n t led => want r (X m tk xs n t led))
theorem specT_chk {p : Program} {w : World} {top : KT} (T : Top top p w) (b : Bool) (hb : w.params.followText "special-get-raises" = b) (r : Rc) (t : Sem Fin) (fuel o : Nat) (R : Nat → Nat → Rcs) (hR : ∀ m tk, RcsOk p w top (R m tk)) (is : List Nat)
    (f : Nat → Nat → (Nat → Ov) → Nat → Nat → Nat → Nat) (g : (Nat → Ov) → Nat → Nat → Nat) (h : (Nat → Ov) → Led → Nat → Obj) (u : (Nat → Ov) → Ov) (hl : r.lvl ≤ 900) (hc : r.code.isCaller = false) (hlen : ∀ x, (r.post x).length = r.pre.length) (nd : is.Nodup)
    (H : ChkT (fol b w.params) p top fuel r t o R is (mkX f g h u)) : SpecT p w top r t :=
  specT_of T ⟨p, w.params⟩ rfl r t fuel o R hR is (mkX f g h u) hl hc (fun _ _ _ _ _ _ => ⟨rfl, rfl⟩) hlen nd (fol_self b _ hb ▸ H)
/-! shlex.__next__ at the end: its body, without the leaving -/
noncomputable def exT (body : List Stmt) (env : Env) : Sem Fin := PySem.W.ZFast.zw12563942051412417395 body env >>= fun f => pure (.done f)
noncomputable def envN (top : KT) (L : Addr) : Env := fEnv top 761 "shlex.__next__.<locals>." L []
noncomputable def rNxB (top : KT) (P₀ : Params) (X : LX) (v : LV) (v1 : Ov → LV) (L t0 : Nat) : Rc :=
  { code := .func (stmtsOf (fnOf top 761)) (envN top L), lvl := 730, pre := (L, frmO [eP P₀ "self" t0 (.ref X.x)] 1 #[]) :: X.at v,
    post := fun z => [frmO [eP P₀ "self" t0 (.ref X.x), eP P₀ "token" (z.n 4) .none] 2 #[], z.o 1, z.o 2, z.o 3, z.o 4, z.o 5, z.o 6], new := fun z => [(z.n 2, stopO (z.n 3)), (z.n 3, tupO [])], res := fun z => .error (.ref (z.n 2)) }
noncomputable def rNxBR (top : KT) (P₀ : Params) (X : LX) (v : LV) (v1 : Ov → LV) (L t0 : Nat) (m tk : Nat) : Rcs := .cons (fun _ => rG X v v1 fun _ => .none) fun _ => .nil
noncomputable def rNxBT (top : KT) (P₀ : Params) (X : LX) (v : LV) (v1 : Ov → LV) (L t0 : Nat) : Sem Fin := exT (stmtsOf (fnOf top 761)) (envN top L)
end Mine
end
end
section
open PySem PySem.W PySem.W.X PyProof.Rows PySem.Calls
noncomputable section
namespace Mine
noncomputable def baseH : Heap := { objs := #[] }
theorem baseH_get (b : Addr) : baseH.get? b = none := Heap.get?_none_of_le (Nat.zero_le _)
/-- a frame left by an exception that no frame has noted -/
theorem leave_mine {M : Model} {A : Around} {E : Value → Shared → Prop} {s : Shared} {env : Env} {outer : List Env} {L e : Addr} {oe : Obj} {vs : Array Value} {Q : Unit → Shared → Prop}
    (hfr : A.frames = some (env :: outer)) (hl : s.heap.FunFrames baseH (env :: outer)) (hf : env.frame = some L)
    (he : s.heap.get? e = some oe) (hd : oe.data = .fields vs) (h1 : vs[1]? = some .none)
    (h : ∀ (h₁ h' : Heap), Heap.SlotsOnly ((env :: outer).filterMap (·.frame)) s.heap h₁ → h'.objs.size = h₁.objs.size + 1 → (∀ b o, b ≠ e → h₁.get? b = some o → h'.get? b = some o) →
      (∃ o vs', h'.get? e = some o ∧ o.cls = oe.cls ∧ o.data = .fields vs') → Q () { s with heap := h' }) : wpAny M A (leaving env (.ref e)) Q E s := by
  have hsz : 1 < vs.size := (Array.getElem?_eq_some_iff.mp h1).1
  have hene : e ∉ (env :: outer).filterMap (·.frame) := fun hm => by
    obtain ⟨_, o, ho, hnf⟩ := hl.mem hm
    rw [he] at ho; injection ho with ho; subst ho; exact hnf vs hd
  unfold leaving noteFrame
  simp only [hf]
  refine wpAny_bind (wpAny_bind (wpAny_field he hd h1 ?_))
  rw [if_neg (by decide)]
  refine wpAny_bind (wpAny_frameOf_fun hfr hl hf fun h₁ hs₁ => ?_)
  refine wpAny_bind (wpAny_entryPlaceOf fun pl hpl => ?_)
  unfold EntryCells.newEntry newFields
  refine wpAny_bind (wpAny_newObj_type ?_ (hpl.sizeOk5 _ _ _ _ _))
  have he₁ : h₁.get? e = some oe := (hs₁.2.1 e hene).trans he
  generalize htb : ({ cls := .type "traceback", dict := none, data := .fields ([Value.none, .ref L, .none, rawInt L, .none] ++ (if pl.isEmpty then List.replicate 6 Value.none else pl)).toArray } : Obj) = tb
  have he₂ := Heap.get?_push_of_some (h := h₁) tb he₁
  refine wpAny_setField he₂ hd hsz ?_
  have hTe : h₁.objs.size ≠ e := Nat.ne_of_gt (Heap.lt_size he₁)
  have hd₃ := Obj.data_mapFields hd (·.setIfInBounds 1 (Value.ref h₁.objs.size))
  have he₃ := Heap.get?_update_self (Obj.mapFields (·.setIfInBounds 1 (Value.ref h₁.objs.size))) he₂ (Obj.isFreed_of_fields hd₃)
  have hT₃ := (Heap.get?_update_other (h₁.push tb) (Obj.mapFields (·.setIfInBounds 1 (Value.ref h₁.objs.size))) (Ne.symm hTe)).trans (Heap.get?_push_size h₁ (by rw [← htb]; rfl))
  have hdt : tb.data = .fields ([Value.none, .ref L, .none, rawInt L, .none] ++ (if pl.isEmpty then List.replicate 6 Value.none else pl)).toArray := by rw [← htb]
  unfold setFlight
  refine wpAny_bind (wpAny_field he₃ hd₃ (x := .ref h₁.objs.size) (by simp [hsz]) ?_)
  rw [if_pos (show (Value.ref h₁.objs.size != Value.none) = true from by simp)]
  refine wpAny_setField hT₃ hdt (by simp only [List.size_toArray, List.length_append, List.length_cons, List.length_nil] <;> omega) (h h₁ _ hs₁ ?_ ?_ ?_)
  · rw [Heap.size_after_update, Heap.size_after_update, Heap.size_push]
  · intro b o hbe hb
    have hbT : h₁.objs.size ≠ b := Nat.ne_of_gt (Heap.lt_size hb)
    rw [Heap.get?_update_other _ _ hbT, Heap.get?_update_other _ _ (Ne.symm hbe)]
    exact Heap.get?_push_of_some _ hb
  · refine ⟨_, _, ?_, Obj.cls_mapFields _ _, hd₃⟩
    rw [Heap.get?_update_other _ _ hTe]; exact he₃
noncomputable def fldA (o : Obj) : Array Value := match o.data with | .fields vs => vs | _ => #[]
noncomputable def excO (o : Obj) : Obj := { cls := .type "StopIteration", dict := o.dict, data := .fields (fldA o), slots := o.slots }
noncomputable def fNx (P₀ : Params) (X : LX) (t0 : Nat) : Obj := frmO [eP P₀ "self" t0 (.ref X.x)] 1 #[]
/-- shlex.__next__ at the end -/
noncomputable def rNx (top : KT) (P₀ : Params) (X : LX) (v : LV) (L t0 : Nat) (E2 E1 : Env) (L2 L1 : Addr) (F2 F1 : Obj) : Rc :=
  { code := .func (stmtsOf (fnOf top 761)) (envN top L), lvl := 730, fr := some [E2, E1], pre := (L, fNx P₀ X t0) :: (X.at v ++ [(L2, F2), (L1, F1)]),
    post := fun z => [z.o 0, z.o 1, z.o 2, z.o 3, z.o 4, z.o 5, z.o 6, slo F2 (z.o 7), slo F1 (z.o 8)], new := fun z => [(z.n 2, excO (z.o 9))], res := fun z => .error (.ref (z.n 2)) }
theorem exT_eq (body : List Stmt) (env : Env) : exT body env = execs body env >>= fun f => pure (.done f) := by
  unfold exT
  rw [← PySem.W.ZFast.ze12563942051412417395]
theorem sNx {prog : Program} {w : World} {top : KT} (T : Top top prog w) (P₀ : Params) (X : LX) (v : LV) (v1 : Ov → LV) (L t0 : Nat) (E2 E1 : Env) (L2 L1 : Addr) (F2 F1 : Obj)
    (H : SpecT prog w top (rNxB top P₀ X v v1 L t0) (rNxBT top P₀ X v v1 L t0)) (hk : (fnOf top 761).scope.kind ≠ .module) (hk2 : E2.scope.kind ≠ .module) (hk1 : E1.scope.kind ≠ .module)
    (hf2 : E2.frame = some L2) (hf1 : E1.frame = some L1) (hd2 : ∀ vs, F2.data ≠ .fields vs) (hd1 : ∀ vs, F1.data ≠ .fields vs) : Spec prog w top (rNx top P₀ X v L t0 E2 E1 L2 L1 F2 F1) := by
  intro A fA ffr s tp hpre nd
  have prB : ∀ q ∈ (rNxB top P₀ X v v1 L t0).pre, q ∈ (rNx top P₀ X v L t0 E2 E1 L2 L1 F2 F1).pre := fun q hq => by
    rcases List.mem_cons.mp hq with rfl | hq
    · exact .head _
    · exact .tail _ (List.mem_append_left _ hq)
  have kx : (rNx top P₀ X v L t0 E2 E1 L2 L1 F2 F1).pre.map (·.1) = [L, X.x, X.dx, X.y, X.dy, X.pb, X.fs, L2, L1] := rfl
  have kb : (rNxB top P₀ X v v1 L t0).pre.map (·.1) = [L, X.x, X.dx, X.y, X.dy, X.pb, X.fs] := rfl
  rw [kx] at nd
  have ndB : ((rNxB top P₀ X v v1 L t0).pre.map (·.1)).Nodup := by
    rw [kb]
    exact (List.nodup_append.mp (show ([L, X.x, X.dx, X.y, X.dy, X.pb, X.fs] ++ [L2, L1]).Nodup from nd)).1
  have apart : ∀ a ∈ [L, X.x, X.dx, X.y, X.dy, X.pb, X.fs], ∀ b ∈ [L2, L1], a ≠ b := (List.nodup_append.mp (show ([L, X.x, X.dx, X.y, X.dy, X.pb, X.fs] ++ [L2, L1]).Nodup from nd)).2.2
  have n21 : L2 ≠ L1 := by
    have := (List.nodup_append.mp (show ([L, X.x, X.dx, X.y, X.dy, X.pb, X.fs] ++ [L2, L1]).Nodup from nd)).2.1
    simpa using this
  have ho2 : s.heap.get? L2 = some F2 := (hpre (L2, F2) (.tail _ (List.mem_append_right _ (.head _)))).1
  have ho1 : s.heap.get? L1 = some F1 := (hpre (L1, F1) (.tail _ (List.mem_append_right _ (.tail _ (.head _))))).1
  have h := H A fA (fun l e => by cases e) s tp (fun q hq => hpre q (prB q hq)) ndB
  refine y_code _ _ _ _ _ _ ?_
  intro Γ p hc hΓ
  have z := h Γ p hc hΓ
  unfold rNxBT at z
  rw [exT_eq, Sem.wp_bind'] at z
  show Sem.wp _ Γ (point >>= fun _ => _) _ _ p s
  rw [Sem.wp_bind']
  show Sem.wp _ Γ ((execs _ _).onRaise (leaving _) >>= _) _ _ p s
  rw [Sem.wp_bind', Sem.wp_onRaise]
  refine Sem.wp_mono _ _ _ (fun f p1 s1 z1 => ?_) (fun e p1 s1 z1 => ?_) _ _ z
  · obtain ⟨_, x, hx, _⟩ := (show Tp top s1.heap ∧ SP (rNxB top P₀ X v v1 L t0) s (.ok f) s1 from z1)
    cases hx
  · obtain ⟨x, hx, hg, hdr, hos, htk, haf⟩ := (show SP (rNxB top P₀ X v v1 L t0) s (.error e) s1 from z1)
    have hx' : e = .ref (x.n 2) := by
      have : (Except.error e : Result) = .error (.ref (x.n 2)) := hx
      cases this; rfl
    subst hx'
    obtain ⟨a1, a2, a3, a4, a5, a6, a7⟩ := haf
    have hsz : s.heap.objs.size ≤ s1.heap.objs.size := by rw [a1]; exact a2
    have he := a6 (x.n 2, stopO (x.n 3)) (.head _)
    have keepB : ∀ b ob, s.heap.get? b = some ob → b ∉ [L, X.x, X.dx, X.y, X.dy, X.pb, X.fs] → s1.heap.get? b = some ob := fun b ob e nb => a5 b ob e fun q hq eq => nb (by rw [← kb, ← eq]; exact List.mem_map_of_mem hq)
    have h2 : s1.heap.get? L2 = some F2 := keepB _ _ ho2 fun hm => apart _ hm L2 (by simp) rfl
    have h1 : s1.heap.get? L1 = some F1 := keepB _ _ ho1 fun hm => apart _ hm L1 (by simp) rfl
    have g : ∀ i : Nat, ∀ q, ((rNxB top P₀ X v v1 L t0).pre.zip ((rNxB top P₀ X v v1 L t0).post x))[i]? = some q → s1.heap.get? q.1.1 = some q.2 := fun i q hq => a4 q (List.mem_of_getElem? hq)
    have g0 := g 0 _ rfl
    dsimp only at g0
    have g1 : s1.heap.get? X.x = some (x.o 1) := g 1 _ rfl
    have g2 : s1.heap.get? X.dx = some (x.o 2) := g 2 _ rfl
    have g3 : s1.heap.get? X.y = some (x.o 3) := g 3 _ rfl
    have g4 : s1.heap.get? X.dy = some (x.o 4) := g 4 _ rfl
    have g5 : s1.heap.get? X.pb = some (x.o 5) := g 5 _ rfl
    have g6 : s1.heap.get? X.fs = some (x.o 6) := g 6 _ rfl
    have hin : Γ.In (A.under (Code.func (stmtsOf (fnOf top 761)) (envN top L))) := (show Γ.code = Code.func (stmtsOf (fnOf top 761)) (envN top L) from hc) ▸ hΓ.in
    have hfr : (A.under (Code.func (stmtsOf (fnOf top 761)) (envN top L))).frames = some (envN top L :: [E2, E1]) := by
      show pushEnvs (Code.func (stmtsOf (fnOf top 761)) (envN top L)).envs A.frames = some (envN top L :: [E2, E1])
      rw [pushEnvs_eq, ffr [E2, E1] rfl]; rfl
    have hl : s1.heap.FunFrames baseH (envN top L :: [E2, E1]) :=
      ⟨hk, ⟨L, _, rfl, baseH_get _, g0, by intro vs h; cases h⟩, hk2, ⟨L2, F2, hf2, baseH_get _, h2, hd2⟩, hk1, ⟨L1, F1, hf1, baseH_get _, h1, hd1⟩, trivial⟩
    refine leave_mine hfr hl rfl he.1 (vs := ⟨[.ref (x.n 3), .none, .none, .none, .bool false, .none]⟩) rfl rfl (fun h₁ h' so sz' keep' exc' => ?_) Γ p1 hin
    have hfs : (envN top L :: [E2, E1]).filterMap (·.frame) = [L, L2, L1] := by
      show List.filterMap (·.frame) (envN top L :: [E2, E1]) = _
      rw [List.filterMap_cons, List.filterMap_cons, List.filterMap_cons, hf2, hf1]; rfl
    rw [hfs] at so
    obtain ⟨so1, so2, so3⟩ := so
    have ltS : ∀ b ob, s.heap.get? b = some ob → b < s.heap.objs.size := fun b ob e => Heap.lt_size e
    have nex : ∀ b ob, s.heap.get? b = some ob → b ≠ x.n 2 := fun b ob e eq => by
      have h8 := ltS b ob e
      have h9 : s.heap.objs.size ≤ x.n 2 := he.2
      rw [eq] at h8
      exact absurd h8 (Nat.not_lt.mpr h9)
    have put : ∀ b ob, s.heap.get? b ≠ none → b ∉ [L, L2, L1] → s1.heap.get? b = some ob → h'.get? b = some ob := fun b ob hb hn e => by
      obtain ⟨o', ho'⟩ := Option.ne_none_iff_exists'.mp hb
      exact keep' b ob (nex b o' ho') (by rw [so2 b hn]; exact e)
    have got : ∀ q ∈ (rNx top P₀ X v L t0 E2 E1 L2 L1 F2 F1).pre, s.heap.get? q.1 ≠ none := fun q hq => by rw [(hpre q hq).1]; simp
    obtain ⟨eo, evs, ee1, ee2, ee3⟩ := exc'
    obtain ⟨sl0, l0⟩ := so3 L _ g0
    obtain ⟨sl2, l2⟩ := so3 L2 _ h2
    obtain ⟨sl1, l1⟩ := so3 L1 _ h1
    have hL : s.heap.get? L = some (fNx P₀ X t0) := (hpre (L, fNx P₀ X t0) (.head _)).1
    have m0 := keep' L _ (nex L _ hL) l0
    have m2 := keep' L2 _ (nex L2 _ ho2) l2
    have m1 := keep' L1 _ (nex L1 _ ho1) l1
    have nL : ∀ a ∈ [X.x, X.dx, X.y, X.dy, X.pb, X.fs], a ∉ [L, L2, L1] := fun a ha hm => by
      rw [List.nodup_cons] at nd
      rcases List.mem_cons.mp hm with rfl | hm
      · exact nd.1 (List.mem_append_left [L2, L1] ha)
      · exact apart a (.tail _ ha) a hm rfl
    refine ⟨⟨fun i => match i with | 0 => h'.objs.size | 1 => x.n 1 | _ => x.n 2, x.m, fun i => match i with
      | 0 => { frmO [eP P₀ "self" t0 (.ref X.x), eP P₀ "token" (x.n 4) .none] 2 #[] with slots := sl0 }
      | 1 => x.o 1 | 2 => x.o 2 | 3 => x.o 3 | 4 => x.o 4 | 5 => x.o 5 | 6 => x.o 6
      | 7 => { F2 with slots := sl2 } | 8 => { F1 with slots := sl1 } | _ => eo, default, []⟩, rfl, hg, hdr, hos, htk, rfl, ?_, rfl, ?_, ?_, ?_, ?_⟩
    · show s.heap.objs.size ≤ h'.objs.size
      rw [sz', so1]; omega
    · intro q hq
      have hx0 := put X.x _ (got (X.x, _) (.tail _ (.head _))) (nL _ (by simp)) g1
      have hx1 := put X.dx _ (got (X.dx, _) (.tail _ (.tail _ (.head _)))) (nL _ (by simp)) g2
      have hx2 := put X.y _ (got (X.y, _) (.tail _ (.tail _ (.tail _ (.head _))))) (nL _ (by simp)) g3
      have hx3 := put X.dy _ (got (X.dy, _) (.tail _ (.tail _ (.tail _ (.tail _ (.head _)))))) (nL _ (by simp)) g4
      have hx4 := put X.pb _ (got (X.pb, _) (.tail _ (.tail _ (.tail _ (.tail _ (.tail _ (.head _))))))) (nL _ (by simp)) g5
      have hx5 := put X.fs _ (got (X.fs, _) (.tail _ (.tail _ (.tail _ (.tail _ (.tail _ (.tail _ (.head _)))))))) (nL _ (by simp)) g6
      have hq' : q ∈ [((L, fNx P₀ X t0), _), ((X.x, _), x.o 1), ((X.dx, _), x.o 2), ((X.y, _), x.o 3), ((X.dy, _), x.o 4), ((X.pb, _), x.o 5), ((X.fs, _), x.o 6), ((L2, F2), slo F2 { F2 with slots := sl2 }), ((L1, F1), slo F1 { F1 with slots := sl1 })] := hq
      simp only [List.mem_cons, List.not_mem_nil, or_false] at hq'
      rcases hq' with rfl | rfl | rfl | rfl | rfl | rfl | rfl | rfl | rfl
      · exact m0
      · exact hx0
      · exact hx1
      · exact hx2
      · exact hx3
      · exact hx4
      · exact hx5
      · exact m2
      · exact m1
    · intro b ob e nb
      have nb' : b ∉ [L, X.x, X.dx, X.y, X.dy, X.pb, X.fs, L2, L1] := fun hm => by
        rw [← kx] at hm
        obtain ⟨q, hq, eq⟩ := List.mem_map.mp hm
        exact nb q hq eq
      refine put b ob (by rw [e]; simp) (fun hm => nb' ?_) (keepB b ob e fun hm => nb' ?_)
      · rcases List.mem_cons.mp hm with rfl | hm
        · exact .head _
        · exact List.mem_append_right [L, X.x, X.dx, X.y, X.dy, X.pb, X.fs] hm
      · exact List.mem_append_left [L2, L1] hm
    · intro q hq
      have hq' : q ∈ [(x.n 2, excO eo)] := hq
      rcases List.mem_singleton.mp hq' with rfl
      refine ⟨?_, he.2⟩
      show h'.get? (x.n 2) = some (excO eo)
      rw [ee1]
      have : eo = excO eo := by
        obtain ⟨c, d, dt, sl⟩ := eo
        dsimp only at ee2 ee3
        subst ee2 ee3
        rfl
      rw [← this]
    · show [x.n 2].Nodup
      simp
end Mine
end
end
section
open PySem PySem.W PySem.W.X PyProof.Rows PySem.Calls
noncomputable section
namespace Mine
/-! list(lexer): the loop's end, the first look -/
noncomputable def rLxE (top : KT) (P₀ : Params) (X : LX) (v : LV) (l : Addr) (ys : List Value) (k : Nat) (E2 E1 : Env) (L2 L1 : Addr) (F2 F1 : Obj) : Rc := rLxL X v l ys k (fun _ => ys) k E2 E1 L2 L1 F2 F1
noncomputable def rLxER (top : KT) (P₀ : Params) (X : LX) (v : LV) (l : Addr) (ys : List Value) (k : Nat) (E2 E1 : Env) (L2 L1 : Addr) (F2 F1 : Obj) (m tk : Nat) : Rcs := .cons (fun _ => rNx top P₀ X v (m + 829) tk E2 E1 L2 L1 F2 F1) fun _ => .nil
/-- list.__init__ behind its first look: a list made of another object -/
noncomputable def extNe (l x : Addr) : Sem Fin := do
  let t ← PySem.W.ZFast.zw14684505520029207082 (.ref x)
  PySem.W.X.condFn (Sem Fin) (t == .type "list" || t == .type "tuple") (.unsupported "") (do
    let iter ← PySem.W.ZFast.zw8711993805878244202 (.ref x)
    let room ← PySem.W.ZFast.zw17359229931016689406 [iter] (PySem.W.ZFast.zw15112759502256325868 (.ref x))
    PySem.W.X.condFn (Sem Fin) room (do
      rule "list.extend.makes-room"
      PySem.W.ZFast.zw922294955767894045 (.ref l)
      PySem.W.ZFast.zw12377390311714414960 (.builtin "list.extend.loop" ⟨[.ref l, iter, .none], []⟩)) (.unsupported ""))
noncomputable def rLxB (X : LX) (v : LV) (l : Addr) (D : (Nat → Nat) → List Value) (n : Nat) (E2 E1 : Env) (L2 L1 : Addr) (F2 F1 : Obj) : Rc :=
  { rLInit X v l D n E2 E1 L2 L1 F2 F1 with pre := (l, lstO [] 0) :: (X.at v ++ [(L2, F2), (L1, F1)]) }
noncomputable def rLxBT (X : LX) (v : LV) (l : Addr) (D : (Nat → Nat) → List Value) (n : Nat) (E2 E1 : Env) (L2 L1 : Addr) (F2 F1 : Obj) : Sem Fin := extNe l X.x
noncomputable def rLxBR (X : LX) (v : LV) (l : Addr) (D : (Nat → Nat) → List Value) (n : Nat) (E2 E1 : Env) (L2 L1 : Addr) (F2 F1 : Obj) (m tk : Nat) : Rcs := .cons (fun _ => rLxL X v l [] 2 D n E2 E1 L2 L1 F2 F1) fun _ => .nil
end Mine
end
end
section
open PySem PySem.W PySem.W.X PyProof.Rows PySem.Calls
noncomputable section
namespace Mine
/-! _law_plainly's turns -/
noncomputable def rMin (a : Int) (ta tb : Nat) (mi : Int) : Rc := { noPre (.call (.builtin "min") ⟨[.int a ta, .int 2 tb], []⟩) (fun z => .int mi (z.n 2)) with lvl := 860 }
structure PF where
  L : Addr
  f0 : Nat
  f1 : Nat
  f2 : Nat
  f3 : Nat
  f4 : Nat
  f5 : Nat
  tab : Addr
  v2 : Value
noncomputable def PF.fr (O : PF) (P₀ : Params) (cl : Addr) (p : Int) (tp : Nat) (st : Int) (ts : Nat) (sn : Addr) (kx : List DictEntry) (n : Nat) : Obj :=
  frmO (eP P₀ "cells" O.f0 (.ref cl) :: eP P₀ "table" O.f1 (.ref O.tab) :: eP P₀ "steps" O.f2 O.v2 :: eP P₀ "seen" O.f5 (.ref sn) :: eP P₀ "state" O.f4 (.int st ts) :: eP P₀ "place" O.f3 (.int p tp) :: kx) n #[]
noncomputable def kP (P₀ : Params) (t6 t7 : Nat) (v6 v7 : Value) : List DictEntry := [eP P₀ "k" t6 v6, eP P₀ "x" t7 v7]
noncomputable def cPl (top : KT) (O : PF) (it : Addr) : Code := forC (nthS (stmtsOf (fnOf top 823)) 1) (.ref it) (fEnv top 823 "_law_plainly.<locals>." O.L [])
noncomputable def rPlL (top : KT) (P₀ : Params) (O : PF) (it sn cl : Addr) (tt : List Value) (nt : Nat) (p : Int) (tp : Nat) (st : Int) (ts : Nat) (kx : List DictEntry) (nn : Nat) (ss : List Value) (q : Nat) (xs : List Value) (n c r : Nat)
    (FS FC : MM → Obj) (FF : Addr → MM → Obj) : Rc :=
  { code := cPl top O it, lvl := 690, pre := [(it, rgItO c r), (sn, lstO ss q), (O.tab, lstO tt nt), (cl, lstO xs n), (O.L, O.fr P₀ cl p tp st ts sn kx nn)],
    post := fun z => [z.o 0, FS z.m, lstO tt nt, lstO xs n, FF (z.n 2) z.m], new := fun z => [(z.n 2, FC z.m)], res := fun _ => .ok .next }
structure PT where
  O : PF
  it : Addr
  sn : Addr
  cl : Addr
  tt : List Value
  nt : Nat
  p : Int
  tp : Nat
  st : Int
  ts : Nat
  t6 : Nat
  v6 : Value
  t7 : Nat
  v7 : Value
  ss : List Value
  q : Nat
  xs : List Value
  n : Nat
  c : Nat
  r : Nat
  ce : Int
  te : Nat
  mi : Int
  ix : Int
  x : Int
  tx : Nat
  A : List Value → List Value
  B : List Value → List Value
  p1 : Int
  pn : Int
  FS : MM → Obj
  FC : MM → Obj
  FF : Addr → MM → Obj
noncomputable def PT.rest (top : KT) (P₀ : Params) (X : PT) (fst last : Bool) (pn : Int) (tpn : Nat) (z0 zx zs : Ov) (te : Nat) (cl : Addr) (xs : List Value) (n : Nat) : Rcs :=
  match last with
  | true => .nil
  | false => .cons (fun _ => rPlL top P₀ X.O X.it X.sn cl X.tt X.nt pn tpn (X.x / 8) (zs.n 2) (kP P₀ (bif fst then z0.n 1 else X.t6) (bif fst then zx.n 1 else X.t7) (.int (Int.ofNat X.c) (z0.n 2)) (.int X.x X.tx)) 8 (X.ss ++ [Value.int X.ce te]) (X.q + 1) xs n (X.c + 1) (X.r + 1) X.FS X.FC X.FF) fun _ => .nil
noncomputable def PT.mid (top : KT) (P₀ : Params) (X : PT) (on lt fst last : Bool) (z0 : Ov) (te : Nat) (cl : Addr) (xs : List Value) (n : Nat) : Rcs :=
  .cons (fun cd => rItem cl xs n X.p (tk1 cd) (.int X.ce te)) fun _ => .cons (fun _ => rApp X.sn X.ss X.q (.int X.ce te)) fun _ =>
  .cons (fun cd => rBin "int.__mul__" 3 X.st (tk0 cd) (tk1 cd) (3 * X.st)) fun _ => .cons (fun cd => rItem cl xs n X.p (tk1 cd) (.int X.ce te)) fun _ =>
  .cons (fun cd => rMin X.ce (tk0 cd) (tk1 cd) X.mi) fun _ => .cons (fun cd => rBin "int.__add__" (3 * X.st) X.mi (tk0 cd) (tk1 cd) X.ix) fun _ =>
  .cons (fun cd => rItem X.O.tab X.tt X.nt X.ix (tk1 cd) (.int X.x X.tx)) fun zx =>
  .cons (fun cd => rSlice (ad0 cd) (ad1 cd) xs (X.A xs) n .none (.int X.p X.tp) .none) fun za => .cons (fun cd => rBin "int.__mod__" X.x 4 (tk0 cd) (tk1 cd) (X.x % 4)) fun zm =>
  .cons (fun cd => rAdd (ad0 cd) (ad1 cd) (X.A xs) [Value.int (X.x % 4) (zm.n 2)] 0 0) fun zb =>
  .cons (fun cd => rBin "int.__add__" X.p 1 (tk0 cd) (tk1 cd) X.p1) fun zp =>
  .cons (fun cd => rSlice (ad0 cd) (ad1 cd) xs (X.B xs) n (.int X.p1 (zp.n 2)) .none .none) fun zc =>
  .cons (fun cd => rAdd (ad0 cd) (ad1 cd) (X.A xs ++ [Value.int (X.x % 4) (zm.n 2)]) (X.B xs) 0 0) fun zd =>
  .cons (fun cd => rBin "int.__floordiv__" X.x 4 (tk0 cd) (tk1 cd) (X.x / 4)) fun _ => .cons (fun cd => rBin "int.__mod__" (X.x / 4) 2 (tk0 cd) (tk1 cd) (X.x / 4 % 2)) fun _ =>
  .cons (fun cd => rEq (X.x / 4 % 2) 0 (tk0 cd) (tk1 cd) on) fun _ =>
  .cons (fun cd => rBin "int.__add__" X.p (match on with | true => 1 | false => -1) (tk0 cd) (tk1 cd) X.pn) fun zq =>
  .cons (fun cd => rBin "int.__floordiv__" X.x 8 (tk0 cd) (tk1 cd) (X.x / 8)) fun zs =>
  .cons (fun cd => rLt X.pn 0 (tk0 cd) (tk1 cd) lt) fun zl =>
  match lt with
  | false => X.rest top P₀ fst last X.pn (zq.n 2) z0 zx zs te (zd.n 2) (X.A xs ++ [Value.int (X.x % 4) (zm.n 2)] ++ X.B xs) 0
  | true => .cons (fun cd => rAdd (ad0 cd) (ad1 cd) [Value.int 0 (zl.n 1)] (X.A xs ++ [Value.int (X.x % 4) (zm.n 2)] ++ X.B xs) 0 0) fun ze => X.rest top P₀ fst last 0 (ze.n 1) z0 zx zs te (ze.n 2) ([Value.int 0 (zl.n 1)] ++ (X.A xs ++ [Value.int (X.x % 4) (zm.n 2)] ++ X.B xs)) 0
noncomputable def PT.run (top : KT) (P₀ : Params) (X : PT) (b on lt fst last : Bool) : Rcs :=
  .cons (fun _ => rRgN X.it X.c (match last with | true => 0 | false => X.r + 1)) fun z0 => .cons (fun _ => rLenL X.cl X.xs X.n) fun z1 => .cons (fun cd => rEq X.p (Int.ofNat X.xs.length) (tk0 cd) (tk1 cd) b) fun z2 =>
  match b with
  | false => X.mid top P₀ on lt fst last z0 X.te X.cl X.xs X.n
  | true => .cons (fun cd => rAdd (ad0 cd) (ad1 cd) X.xs [Value.int 0 (z2.n 1)] X.n 0) fun z3 => X.mid top P₀ on lt fst last z0 (z2.n 1) (z3.n 2) (X.xs ++ [Value.int 0 (z2.n 1)]) 0
noncomputable def rPlT (top : KT) (P₀ : Params) (X : PT) : Rc := rPlL top P₀ X.O X.it X.sn X.cl X.tt X.nt X.p X.tp X.st X.ts (kP P₀ X.t6 X.t7 X.v6 X.v7) 8 X.ss X.q X.xs X.n X.c (X.r + 2) X.FS X.FC X.FF
noncomputable def rPlF (top : KT) (P₀ : Params) (X : PT) : Rc := rPlL top P₀ X.O X.it X.sn X.cl X.tt X.nt X.p X.tp X.st X.ts [] 6 X.ss X.q X.xs X.n X.c (X.r + 2) X.FS X.FC X.FF
/-- the last turn -/
noncomputable def rPlU (top : KT) (P₀ : Params) (X : PT) : Rc := rPlL top P₀ X.O X.it X.sn X.cl X.tt X.nt X.p X.tp X.st X.ts (kP P₀ X.t6 X.t7 X.v6 X.v7) 8 X.ss X.q X.xs X.n X.c 1 X.FS
  X.FC (fun cl m => X.O.fr P₀ cl X.pn (m 1 0) (X.x / 8) (m 1 1) X.sn (kP P₀ X.t6 X.t7 (.int (Int.ofNat X.c) (m 1 2)) (.int X.x X.tx)) 8)
noncomputable def rPlT0 (top : KT) (P₀ : Params) (X : PT) : Rc := rPlT top P₀ X
noncomputable def rPlT0R (top : KT) (P₀ : Params) (X : PT) (m tk : Nat) : Rcs := X.run top P₀ false true false false false
noncomputable def rPlT1 (top : KT) (P₀ : Params) (X : PT) : Rc := rPlT top P₀ X
noncomputable def rPlT1R (top : KT) (P₀ : Params) (X : PT) (m tk : Nat) : Rcs := X.run top P₀ false false false false false
noncomputable def rPlT2 (top : KT) (P₀ : Params) (X : PT) : Rc := rPlT top P₀ X
noncomputable def rPlT2R (top : KT) (P₀ : Params) (X : PT) (m tk : Nat) : Rcs := X.run top P₀ false false true false false
noncomputable def rPlT3 (top : KT) (P₀ : Params) (X : PT) : Rc := rPlT top P₀ X
noncomputable def rPlT3R (top : KT) (P₀ : Params) (X : PT) (m tk : Nat) : Rcs := X.run top P₀ true true false false false
noncomputable def rPlT4 (top : KT) (P₀ : Params) (X : PT) : Rc := rPlT top P₀ X
noncomputable def rPlT4R (top : KT) (P₀ : Params) (X : PT) (m tk : Nat) : Rcs := X.run top P₀ true false false false false
noncomputable def rPlT5 (top : KT) (P₀ : Params) (X : PT) : Rc := rPlT top P₀ X
noncomputable def rPlT5R (top : KT) (P₀ : Params) (X : PT) (m tk : Nat) : Rcs := X.run top P₀ true false true false false
noncomputable def rPlF0 (top : KT) (P₀ : Params) (X : PT) : Rc := rPlF top P₀ X
noncomputable def rPlF0R (top : KT) (P₀ : Params) (X : PT) (m tk : Nat) : Rcs := X.run top P₀ false true false true false
noncomputable def rPlF1 (top : KT) (P₀ : Params) (X : PT) : Rc := rPlF top P₀ X
noncomputable def rPlF1R (top : KT) (P₀ : Params) (X : PT) (m tk : Nat) : Rcs := X.run top P₀ false false true true false
noncomputable def rPlU0 (top : KT) (P₀ : Params) (X : PT) : Rc := rPlU top P₀ { X with FS := fun m => lstO (X.ss ++ [Value.int X.ce X.te]) (X.q + 1), FC := fun m => lstO (X.A X.xs ++ [Value.int (X.x % 4) (m 1 3)] ++ X.B X.xs) 0, pn := X.pn }
noncomputable def rPlU0R (top : KT) (P₀ : Params) (X : PT) (m tk : Nat) : Rcs := X.run top P₀ false true false false true
noncomputable def rPlU1 (top : KT) (P₀ : Params) (X : PT) : Rc := rPlU top P₀ { X with FS := fun m => lstO (X.ss ++ [Value.int X.ce X.te]) (X.q + 1), FC := fun m => lstO (X.A X.xs ++ [Value.int (X.x % 4) (m 1 3)] ++ X.B X.xs) 0, pn := X.pn }
noncomputable def rPlU1R (top : KT) (P₀ : Params) (X : PT) (m tk : Nat) : Rcs := X.run top P₀ false false false false true
noncomputable def rPlU2 (top : KT) (P₀ : Params) (X : PT) : Rc := rPlU top P₀ { X with FS := fun m => lstO (X.ss ++ [Value.int X.ce X.te]) (X.q + 1), FC := fun m => lstO ([Value.int 0 (m 1 5)] ++ (X.A X.xs ++ [Value.int (X.x % 4) (m 1 3)] ++ X.B X.xs)) 0, pn := 0 }
noncomputable def rPlU2R (top : KT) (P₀ : Params) (X : PT) (m tk : Nat) : Rcs := X.run top P₀ false false true false true
noncomputable def rPlU3 (top : KT) (P₀ : Params) (X : PT) : Rc := rPlU top P₀ { X with FS := fun m => lstO (X.ss ++ [Value.int X.ce (m 1 4)]) (X.q + 1), FC := fun m => lstO (X.A (X.xs ++ [Value.int 0 (m 1 4)]) ++ [Value.int (X.x % 4) (m 1 3)] ++ X.B (X.xs ++ [Value.int 0 (m 1 4)])) 0, pn := X.pn }
noncomputable def rPlU3R (top : KT) (P₀ : Params) (X : PT) (m tk : Nat) : Rcs := X.run top P₀ true true false false true
noncomputable def rPlU4 (top : KT) (P₀ : Params) (X : PT) : Rc := rPlU top P₀ { X with FS := fun m => lstO (X.ss ++ [Value.int X.ce (m 1 4)]) (X.q + 1), FC := fun m => lstO (X.A (X.xs ++ [Value.int 0 (m 1 4)]) ++ [Value.int (X.x % 4) (m 1 3)] ++ X.B (X.xs ++ [Value.int 0 (m 1 4)])) 0, pn := X.pn }
noncomputable def rPlU4R (top : KT) (P₀ : Params) (X : PT) (m tk : Nat) : Rcs := X.run top P₀ true false false false true
noncomputable def rPlU5 (top : KT) (P₀ : Params) (X : PT) : Rc := rPlU top P₀ { X with FS := fun m => lstO (X.ss ++ [Value.int X.ce (m 1 4)]) (X.q + 1), FC := fun m => lstO ([Value.int 0 (m 1 5)] ++ (X.A (X.xs ++ [Value.int 0 (m 1 4)]) ++ [Value.int (X.x % 4) (m 1 3)] ++ X.B (X.xs ++ [Value.int 0 (m 1 4)]))) 0, pn := 0 }
noncomputable def rPlU5R (top : KT) (P₀ : Params) (X : PT) (m tk : Nat) : Rcs := X.run top P₀ true false true false true
end Mine
end
end
section
open PySem PySem.W PySem.W.X PyProof.Rows PySem.Calls
noncomputable section
namespace Mine
/-! min(c, 2) -/
noncomputable def rMinA (a : Int) (ta tb : Nat) : Rc := rMin a ta tb a
noncomputable def rMinAR (a : Int) (ta tb : Nat) (m tk : Nat) : Rcs := .cons (fun cd => rLt 2 a (tk0 cd) (tk1 cd) false) fun _ => .nil
noncomputable def rMinB (a : Int) (ta tb : Nat) : Rc := rMin a ta tb 2
noncomputable def rMinBR (a : Int) (ta tb : Nat) (m tk : Nat) : Rcs := .cons (fun cd => rLt 2 a (tk0 cd) (tk1 cd) true) fun _ => .nil
/-! _law_plainly as a whole -/
structure OP where
  cl : Addr
  xs : List Value
  n : Nat
  tab : Addr
  tt : List Value
  nt : Nat
  st : Nat
  ts : Nat
  SS : MM → List Value
  q : Nat
  CC : MM → List Value
  PN : Nat
  SF : Int
  V : Nat → MM → Value
noncomputable def pfOf (X : OP) (m tk : Nat) : PF := { L := m + 829, f0 := tk, f1 := tk + 1, f2 := tk + 2, f3 := tk + 7, f4 := tk + 6, f5 := tk + 5, tab := X.tab, v2 := .int (Int.ofNat X.st) X.ts }
noncomputable def rPln (top : KT) (P₀ : Params) (X : OP) : Rc :=
  { code := .call (.ref 823) ⟨[.ref X.cl, .ref X.tab, .int (Int.ofNat X.st) X.ts], []⟩, lvl := 640, pre := [(X.cl, lstO X.xs X.n), (X.tab, lstO X.tt X.nt)], post := fun z => [lstO X.xs X.n, lstO X.tt X.nt],
    new := fun z => [(z.n 2, tupO [.ref (z.n 3), .int X.SF (z.n 4), .ref (z.n 5), .ref (z.n 6)]), (z.n 3, lstO (X.SS z.m) X.q), (z.n 5, lstO ((X.CC z.m).take X.PN) 0), (z.n 6, lstO ((X.CC z.m).drop X.PN) 0)], res := fun z => .ok (.ret (.ref (z.n 2))) }
noncomputable def rPlnR (top : KT) (P₀ : Params) (X : OP) (m tk : Nat) : Rcs :=
  .cons (fun c => rRgI (ad0 c) (tk + 8) X.st X.ts (tk + 9)) fun g =>
  .cons (fun _ => rPlL top P₀ (pfOf X m tk) (g.n 2) (m + 830) X.cl X.tt X.nt 0 (tk + 3) 0 (tk + 4) [] 6 [] 0 X.xs X.n 0 X.st (fun m => lstO (X.SS m) X.q) (fun m => lstO (X.CC m) 0)
    (fun cl m' => (pfOf X m tk).fr P₀ cl (Int.ofNat X.PN) (m' 1 0) X.SF (m' 1 1) (m + 830) (kP P₀ (m' 1 2) (m' 1 3) (X.V 0 m') (X.V 1 m')) 8)) fun o =>
  .cons (fun c => rSlice (ad0 c) (ad1 c) (X.CC o.m) ((X.CC o.m).take X.PN) 0 .none (.int (Int.ofNat X.PN) (o.m 1 0)) .none) fun e =>
  .cons (fun c => rSlice (ad0 c) (ad1 c) (X.CC o.m) ((X.CC o.m).drop X.PN) 0 (.int (Int.ofNat X.PN) (o.m 1 0)) .none .none) fun e => .nil
end Mine
end
end
section
open PySem PySem.W PySem.W.X PyProof.Rows PySem.Calls
noncomputable section
namespace Mine
/-! law: its comprehensions -/
noncomputable def rhsE (s : Stmt) : Expr := match s with | .Assign _ v _ => v | _ => default
noncomputable def binR (e : Expr) : Expr := match e with | .BinOp _ _ r _ => r | _ => default
noncomputable def arg0 (e : Expr) : Expr := match e with | .Call _ (a :: _) _ _ => a | _ => default
noncomputable def nthX (l : List Expr) : Nat → Expr := List.rec (motive := fun _ => Nat → Expr) (fun _ => default) (fun s _ ih i => Nat.rec (motive := fun _ => Expr) s (fun j _ => ih j) i) l
noncomputable def tupN (e : Expr) (i : Nat) : Expr := match e with | .Tuple es _ _ => nthX es i | _ => default
noncomputable def lawS (top : KT) (i : Nat) : Expr := rhsE (nthS (stmtsOf (fnOf top 828)) i)
noncomputable def eL (top : KT) (j : Nat) : Expr := match j with
  | 0 => lawS top 0
  | 1 => binR (lawS top 1)
  | 2 => arg0 (lawS top 3)
  | 3 => tupN (lawS top 5) 0
  | 4 => tupN (lawS top 5) 2
  | _ => tupN (lawS top 5) 3
noncomputable def nmJ (j : Nat) : String := match j with | 0 => "x" | 1 => "x" | _ => "cell"
structure CJ where
  it : Addr
  L : Addr
  l : Addr
  ns : Addr
  acc : Addr
  cl : Addr
  pl : Addr
  t0 : Nat
  xs : List Value
  n : Nat
  i : Nat
  ys : List Value
  k : Nat
  v : Int
  tv : Nat
  t2 : Nat
  w : Value
  wd : Str
  wt : Nat
  qd : Str
  D : (Nat → Nat) → List Value
  kf : Nat
  KX : MM → List DictEntry
noncomputable def CJ.env (X : CJ) (top : KT) (j : Nat) : Env := cEnv top 828 "law.<locals>." X.L X.ns (match j with | 0 => [] | 1 => [] | _ => [(.ofString "pool", X.cl)]) (eL top j)
noncomputable def CJ.pool (X : CJ) (j : Nat) : List (Addr × Obj) := match j with | 0 => [] | 1 => [] | _ => [(X.cl, celO (.ref X.pl)), (X.pl, lstO (wl X.t0) 0)]
noncomputable def CJ.loop (X : CJ) (top : KT) (j : Nat) : Code := .compLoop (eL top j) 0 (.ref X.it) (.ref X.acc) (X.env top j)
noncomputable def CJ.start (X : CJ) (top : KT) (j : Nat) : Code := .compStart (eL top j) 0 (.ref X.it) (.ref X.acc) (X.env top j)
noncomputable def rCJ (X : CJ) (code : Code) (j : Nat) (kx : List DictEntry) (nn : Nat) : Rc :=
  { code := code, lvl := 690, pre := (X.it, liO X.l X.i) :: (X.l, lstO X.xs X.n) :: (X.ns, dicO kx nn) :: (X.acc, lstO X.ys X.k) :: X.pool j,
    post := fun z => z.o 0 :: lstO X.xs X.n :: dicO (X.KX z.m) (z.m 1 1) :: lstO (X.D (z.m 0)) X.kf :: snds (X.pool j), new := fun _ => [], res := fun _ => .ok .next }
/-- the elements: x % 24, x % 4, safe_repr(pool[cell]), pool[cell] -/
noncomputable def rRepr (wd qd : Str) (wt : Nat) : Rc := { noPre (.call (.ref 776) ⟨[.str wd wt], []⟩) (fun z => .str qd (z.n 2)) with lvl := 720 }
noncomputable def CJ.turn (X : CJ) (top : KT) (P₀ : Params) (j : Nat) (kx : Ov → List DictEntry) : Rcs :=
  .cons (fun _ => rLiN X.it X.l X.xs X.n X.i (.int X.v X.tv)) fun z => match j with
  | 0 => .cons (fun c => rBin "int.__mod__" X.v 24 (tk0 c) (tk1 c) (X.v % 24)) fun y => .cons (fun _ => rApp X.acc X.ys X.k (.int (X.v % 24) (y.n 2))) fun _ => .cons (fun _ => rCJ { X with i := X.i + 1, ys := X.ys ++ [Value.int (X.v % 24) (y.n 2)], k := X.k + 1 } (X.loop top 0) 0 (kx z) 1) fun _ => .nil
  | 1 => .cons (fun c => rBin "int.__mod__" X.v 4 (tk0 c) (tk1 c) (X.v % 4)) fun y => .cons (fun _ => rApp X.acc X.ys X.k (.int (X.v % 4) (y.n 2))) fun _ => .cons (fun _ => rCJ { X with i := X.i + 1, ys := X.ys ++ [Value.int (X.v % 4) (y.n 2)], k := X.k + 1 } (X.loop top 1) 1 (kx z) 1) fun _ => .nil
  | 2 => .cons (fun c => rItem X.pl (wl X.t0) 0 X.v (tk1 c) (.str X.wd X.wt)) fun _ => .cons (fun _ => rRepr X.wd X.qd X.wt) fun y => .cons (fun _ => rApp X.acc X.ys X.k (.str X.qd (y.n 2))) fun _ => .cons (fun _ => rCJ { X with i := X.i + 1, ys := X.ys ++ [Value.str X.qd (y.n 2)], k := X.k + 1 } (X.loop top 2) 2 (kx z) 1) fun _ => .nil
  | _ => .cons (fun c => rItem X.pl (wl X.t0) 0 X.v (tk1 c) (.str X.wd X.wt)) fun _ => .cons (fun _ => rApp X.acc X.ys X.k (.str X.wd X.wt)) fun _ => .cons (fun _ => rCJ { X with i := X.i + 1, ys := X.ys ++ [Value.str X.wd X.wt], k := X.k + 1 } (X.loop top j) j (kx z) 1) fun _ => .nil
noncomputable def rL0E (top : KT) (P₀ : Params) (X : CJ) (kx : List DictEntry) (nn : Nat) : Rc := rCJ { X with D := fun _ => X.ys, kf := X.k, KX := fun _ => kx } (X.loop top 0) 0 kx nn
noncomputable def rL0ER (top : KT) (P₀ : Params) (X : CJ) (kx : List DictEntry) (nn : Nat) (m tk : Nat) : Rcs := .cons (fun _ => rLiE X.it X.l X.xs X.n X.i) fun _ => .nil
noncomputable def rL0F (top : KT) (P₀ : Params) (X : CJ) : Rc := rCJ X (X.loop top 0) 0 [] 0
noncomputable def rL0FR (top : KT) (P₀ : Params) (X : CJ) (m tk : Nat) : Rcs := X.turn top P₀ 0 fun z => [eP P₀ (nmJ 0) (z.n 1) (.int X.v X.tv)]
noncomputable def rL0T (top : KT) (P₀ : Params) (X : CJ) : Rc := rCJ X (X.loop top 0) 0 [eP P₀ (nmJ 0) X.t2 X.w] 1
noncomputable def rL0TR (top : KT) (P₀ : Params) (X : CJ) (m tk : Nat) : Rcs := X.turn top P₀ 0 fun z => [eP P₀ (nmJ 0) X.t2 (.int X.v X.tv)]
noncomputable def rL0B (top : KT) (P₀ : Params) (X : CJ) : Rc := rCJ X (X.start top 0) 0 [] 0
noncomputable def rL0BR (top : KT) (P₀ : Params) (X : CJ) (m tk : Nat) : Rcs := .cons (fun _ => rCJ X (X.loop top 0) 0 [] 0) fun _ => .nil
noncomputable def rL1E (top : KT) (P₀ : Params) (X : CJ) (kx : List DictEntry) (nn : Nat) : Rc := rCJ { X with D := fun _ => X.ys, kf := X.k, KX := fun _ => kx } (X.loop top 1) 1 kx nn
noncomputable def rL1ER (top : KT) (P₀ : Params) (X : CJ) (kx : List DictEntry) (nn : Nat) (m tk : Nat) : Rcs := .cons (fun _ => rLiE X.it X.l X.xs X.n X.i) fun _ => .nil
noncomputable def rL1F (top : KT) (P₀ : Params) (X : CJ) : Rc := rCJ X (X.loop top 1) 1 [] 0
noncomputable def rL1FR (top : KT) (P₀ : Params) (X : CJ) (m tk : Nat) : Rcs := X.turn top P₀ 1 fun z => [eP P₀ (nmJ 1) (z.n 1) (.int X.v X.tv)]
noncomputable def rL1T (top : KT) (P₀ : Params) (X : CJ) : Rc := rCJ X (X.loop top 1) 1 [eP P₀ (nmJ 1) X.t2 X.w] 1
noncomputable def rL1TR (top : KT) (P₀ : Params) (X : CJ) (m tk : Nat) : Rcs := X.turn top P₀ 1 fun z => [eP P₀ (nmJ 1) X.t2 (.int X.v X.tv)]
noncomputable def rL1B (top : KT) (P₀ : Params) (X : CJ) : Rc := rCJ X (X.start top 1) 1 [] 0
noncomputable def rL1BR (top : KT) (P₀ : Params) (X : CJ) (m tk : Nat) : Rcs := .cons (fun _ => rCJ X (X.loop top 1) 1 [] 0) fun _ => .nil
noncomputable def rL2E (top : KT) (P₀ : Params) (X : CJ) (kx : List DictEntry) (nn : Nat) : Rc := rCJ { X with D := fun _ => X.ys, kf := X.k, KX := fun _ => kx } (X.loop top 2) 2 kx nn
noncomputable def rL2ER (top : KT) (P₀ : Params) (X : CJ) (kx : List DictEntry) (nn : Nat) (m tk : Nat) : Rcs := .cons (fun _ => rLiE X.it X.l X.xs X.n X.i) fun _ => .nil
noncomputable def rL2F (top : KT) (P₀ : Params) (X : CJ) : Rc := rCJ X (X.loop top 2) 2 [] 0
noncomputable def rL2FR (top : KT) (P₀ : Params) (X : CJ) (m tk : Nat) : Rcs := X.turn top P₀ 2 fun z => [eP P₀ (nmJ 2) (z.n 1) (.int X.v X.tv)]
noncomputable def rL2T (top : KT) (P₀ : Params) (X : CJ) : Rc := rCJ X (X.loop top 2) 2 [eP P₀ (nmJ 2) X.t2 X.w] 1
noncomputable def rL2TR (top : KT) (P₀ : Params) (X : CJ) (m tk : Nat) : Rcs := X.turn top P₀ 2 fun z => [eP P₀ (nmJ 2) X.t2 (.int X.v X.tv)]
noncomputable def rL2B (top : KT) (P₀ : Params) (X : CJ) : Rc := rCJ X (X.start top 2) 2 [] 0
noncomputable def rL2BR (top : KT) (P₀ : Params) (X : CJ) (m tk : Nat) : Rcs := .cons (fun _ => rCJ X (X.loop top 2) 2 [] 0) fun _ => .nil
noncomputable def rL3E (top : KT) (P₀ : Params) (X : CJ) (kx : List DictEntry) (nn : Nat) : Rc := rCJ { X with D := fun _ => X.ys, kf := X.k, KX := fun _ => kx } (X.loop top 3) 3 kx nn
noncomputable def rL3ER (top : KT) (P₀ : Params) (X : CJ) (kx : List DictEntry) (nn : Nat) (m tk : Nat) : Rcs := .cons (fun _ => rLiE X.it X.l X.xs X.n X.i) fun _ => .nil
noncomputable def rL3F (top : KT) (P₀ : Params) (X : CJ) : Rc := rCJ X (X.loop top 3) 3 [] 0
noncomputable def rL3FR (top : KT) (P₀ : Params) (X : CJ) (m tk : Nat) : Rcs := X.turn top P₀ 3 fun z => [eP P₀ (nmJ 3) (z.n 1) (.int X.v X.tv)]
noncomputable def rL3T (top : KT) (P₀ : Params) (X : CJ) : Rc := rCJ X (X.loop top 3) 3 [eP P₀ (nmJ 3) X.t2 X.w] 1
noncomputable def rL3TR (top : KT) (P₀ : Params) (X : CJ) (m tk : Nat) : Rcs := X.turn top P₀ 3 fun z => [eP P₀ (nmJ 3) X.t2 (.int X.v X.tv)]
noncomputable def rL3B (top : KT) (P₀ : Params) (X : CJ) : Rc := rCJ X (X.start top 3) 3 [] 0
noncomputable def rL3BR (top : KT) (P₀ : Params) (X : CJ) (m tk : Nat) : Rcs := .cons (fun _ => rCJ X (X.loop top 3) 3 [] 0) fun _ => .nil
noncomputable def rL4E (top : KT) (P₀ : Params) (X : CJ) (kx : List DictEntry) (nn : Nat) : Rc := rCJ { X with D := fun _ => X.ys, kf := X.k, KX := fun _ => kx } (X.loop top 4) 4 kx nn
noncomputable def rL4ER (top : KT) (P₀ : Params) (X : CJ) (kx : List DictEntry) (nn : Nat) (m tk : Nat) : Rcs := .cons (fun _ => rLiE X.it X.l X.xs X.n X.i) fun _ => .nil
noncomputable def rL4F (top : KT) (P₀ : Params) (X : CJ) : Rc := rCJ X (X.loop top 4) 4 [] 0
noncomputable def rL4FR (top : KT) (P₀ : Params) (X : CJ) (m tk : Nat) : Rcs := X.turn top P₀ 4 fun z => [eP P₀ (nmJ 4) (z.n 1) (.int X.v X.tv)]
noncomputable def rL4T (top : KT) (P₀ : Params) (X : CJ) : Rc := rCJ X (X.loop top 4) 4 [eP P₀ (nmJ 4) X.t2 X.w] 1
noncomputable def rL4TR (top : KT) (P₀ : Params) (X : CJ) (m tk : Nat) : Rcs := X.turn top P₀ 4 fun z => [eP P₀ (nmJ 4) X.t2 (.int X.v X.tv)]
noncomputable def rL4B (top : KT) (P₀ : Params) (X : CJ) : Rc := rCJ X (X.start top 4) 4 [] 0
noncomputable def rL4BR (top : KT) (P₀ : Params) (X : CJ) (m tk : Nat) : Rcs := .cons (fun _ => rCJ X (X.loop top 4) 4 [] 0) fun _ => .nil
noncomputable def rL5E (top : KT) (P₀ : Params) (X : CJ) (kx : List DictEntry) (nn : Nat) : Rc := rCJ { X with D := fun _ => X.ys, kf := X.k, KX := fun _ => kx } (X.loop top 5) 5 kx nn
noncomputable def rL5ER (top : KT) (P₀ : Params) (X : CJ) (kx : List DictEntry) (nn : Nat) (m tk : Nat) : Rcs := .cons (fun _ => rLiE X.it X.l X.xs X.n X.i) fun _ => .nil
noncomputable def rL5F (top : KT) (P₀ : Params) (X : CJ) : Rc := rCJ X (X.loop top 5) 5 [] 0
noncomputable def rL5FR (top : KT) (P₀ : Params) (X : CJ) (m tk : Nat) : Rcs := X.turn top P₀ 5 fun z => [eP P₀ (nmJ 5) (z.n 1) (.int X.v X.tv)]
noncomputable def rL5T (top : KT) (P₀ : Params) (X : CJ) : Rc := rCJ X (X.loop top 5) 5 [eP P₀ (nmJ 5) X.t2 X.w] 1
noncomputable def rL5TR (top : KT) (P₀ : Params) (X : CJ) (m tk : Nat) : Rcs := X.turn top P₀ 5 fun z => [eP P₀ (nmJ 5) X.t2 (.int X.v X.tv)]
noncomputable def rL5B (top : KT) (P₀ : Params) (X : CJ) : Rc := rCJ X (X.start top 5) 5 [] 0
noncomputable def rL5BR (top : KT) (P₀ : Params) (X : CJ) (m tk : Nat) : Rcs := .cons (fun _ => rCJ X (X.loop top 5) 5 [] 0) fun _ => .nil
noncomputable def rRep0 (wt : Nat) : Rc := rRepr ⟨⟨w0⟩⟩ ⟨⟨q0⟩⟩ wt
noncomputable def rRep0R (wt : Nat) (m tk : Nat) : Rcs := .nil
noncomputable def rRep1 (wt : Nat) : Rc := rRepr ⟨⟨w1⟩⟩ ⟨⟨q1⟩⟩ wt
noncomputable def rRep1R (wt : Nat) (m tk : Nat) : Rcs := .nil
noncomputable def rRep2 (wt : Nat) : Rc := rRepr ⟨⟨w2⟩⟩ ⟨⟨q2⟩⟩ wt
noncomputable def rRep2R (wt : Nat) (m tk : Nat) : Rcs := .nil
noncomputable def rRep3 (wt : Nat) : Rc := rRepr ⟨⟨w3⟩⟩ ⟨⟨q3⟩⟩ wt
noncomputable def rRep3R (wt : Nat) (m tk : Nat) : Rcs := .nil
noncomputable def D9 (t : Nat) : List Value := [.int 9 t, .int 6 (t + 1), .int 19 (t + 2), .int 7 (t + 3), .int 16 (t + 4), .int 13 (t + 5), .int 14 (t + 6), .int 3 (t + 7), .int 21 (t + 8)]
end Mine
end
end
section
open PySem PySem.W PySem.W.X PyProof.Rows PySem.Calls
noncomputable section
namespace Mine
/-! law -/
noncomputable def rJoin (l : Addr) (xs : List Value) (n t : Nat) (b : Str) : Rc := { code := .call (.builtin "str.join") ⟨[.str ⟨⟨[32]⟩⟩ t, .ref l], []⟩, lvl := 890, pre := [(l, lstO xs n)], post := fun _ => [lstO xs n], new := fun _ => [], res := fun z => .ok (.ret (.str b (z.n 2))) }
noncomputable def rEqV (a b : Addr) (us vs : List Value) (n m : Nat) : Rc := { code := .call (.builtin "list.__eq__") ⟨[.ref a, .ref b], []⟩, lvl := 900, pre := [(a, lstO us n), (b, lstO vs m)], post := fun _ => [lstO us n, lstO vs m], new := fun _ => [], res := fun z => .ok (.ret (.bool true)) }
structure OL where
  l : Addr
  xs : List Value
  n : Nat
  T9 : Nat → List Value
  T13 : List Value
  TA : (Nat → Nat) → List Value
  ka : Nat
  TB : (Nat → Nat) → List Value
  kb : Nat
  TC : (Nat → Nat) → List Value
  kc : Nat
  VX : Nat → MM → Value
  b : Str
  SP : MM → List Value
  qp : Nat
  CC : MM → List Value
  PN : Nat
  SF : Int
  V : Nat → MM → Value
  D3 : (Nat → Nat) → List Value
  k3 : Nat
  D4 : (Nat → Nat) → List Value
  k4 : Nat
  D5 : (Nat → Nat) → List Value
  k5 : Nat
  S2 : (Nat → Nat) → List Value
  q2 : Nat
  RV : MM → LV
  LE : MM → LV
  V2 : Nat → MM → Value
  DL : (Nat → Nat) → List Value
  DR : (Nat → Nat) → List Value
  nl : Nat
  nr : Nat
  X1 : MM → List Value
  pf : Nat
  kf : Nat
  S1 : MM → List Value
  q1 : Nat
  PB : MM → List (Str × Nat)
  kB : Nat
  V1 : Nat → MM → Value
  j : Nat
noncomputable def OL.cj (P₀ : Params) (X : OL) (L cl : Nat) (e : Bool) (it l : Addr) (xs : List Value) (n : Nat) (ns acc : Addr) (pl t0 : Nat) (D : (Nat → Nat) → List Value) (kf j : Nat) : CJ :=
  { it := it, L := L, l := l, ns := ns, acc := acc, cl := cl, pl := pl, t0 := t0, xs := xs, n := n, i := 0, ys := [], k := 0, v := 0, tv := 0, t2 := 0, w := .none, wd := ⟨⟨[]⟩⟩, wt := 0, qd := ⟨⟨[]⟩⟩, D := D, kf := kf, KX := match e with | true => fun _ => [] | false => fun m' => [eP P₀ (nmJ j) (m' 1 0) (X.VX j m')] }
noncomputable def C3 (t : Nat) : List Value := [.int 1 t, .int 0 (t + 1), .int 2 (t + 2)]
noncomputable def OL.op (X : OL) (cl : Addr) (xs : List Value) (tab : Addr) (tt : List Value) (ts : Nat) : OP := { cl := cl, xs := xs, n := 0, tab := tab, tt := tt, nt := X.ka, st := 12, ts := ts, SS := X.SP, q := X.qp, CC := X.CC, PN := X.PN, SF := X.SF, V := X.V }
noncomputable def stE (s : Stmt) : Expr := match s with | .Return (some e) _ => e | _ => default
noncomputable def boolN (e : Expr) (i : Nat) : Expr := match e with | .BoolOp _ es _ => nthX es i | _ => default
noncomputable def cmpLt (e : Expr) : Expr := match e with | .Compare l _ _ _ => l | _ => default
noncomputable def takeS (l : List Stmt) : Nat → List Stmt := List.rec (motive := fun _ => Nat → List Stmt) (fun _ => []) (fun s _ ih i => Nat.rec (motive := fun _ => List Stmt) [] (fun j _ => s :: ih j) i) l
noncomputable def envLw (top : KT) (L cl : Addr) : Env := fEnv top 828 "law.<locals>." L [(.ofString "pool", cl)]
noncomputable def stP (s : Stmt) : Pos := match s with | .Return _ p => p | _ => default
/-- statements, then a value -/
noncomputable def exV (ss : List Stmt) (p : Pos) (e : Expr) (env : Env) : Sem Fin := PySem.W.ZFast.zw12563942051412417395 ss env >>= fun f => match f with
  | .next => standAt p >>= fun _ => PySem.W.ZFast.zw14044960220447912780 e env >>= fun v => pure (.done (.ret v))
  | _ => pure (.done .brk)
noncomputable def cel0 : Obj := { cls := .type "cell", data := .cell none }
noncomputable def rw2 (top : KT) : Expr := cmpLt (boolN (stE (nthS (stmtsOf (fnOf top 828)) 6)) 0)
noncomputable def rw1 (top : KT) : Expr := cmpLt (boolN (stE (nthS (stmtsOf (fnOf top 828)) 6)) 1)
noncomputable def fLw (P₀ : Params) (X : OL) (t0 : Nat) (z : Ov) : Obj := frmO [eP P₀ "script" t0 (.ref X.l), eP P₀ "table" (z.n 15) (.ref (z.n 12)), eP P₀ "cells" (z.n 16) (.ref (z.n 13)), eP P₀ "text" (z.n 17) (.str X.b (z.n 14)), eP P₀ "seen" (z.n 18) (.ref (z.n 23)), eP P₀ "state" (z.n 19) (.int X.SF (z.n 26)),
      eP P₀ "left" (z.n 20) (.ref (z.n 24)), eP P₀ "right" (z.n 21) (.ref (z.n 25)), eP P₀ "due" (z.n 22) (.ref (z.n 7))] 9 #[]
/-- law up to the first lexers' answer -/
noncomputable def rT1 (top : KT) (P₀ : Params) (X : OL) (L cl t0 : Nat) : Rc :=
  { code := .func (stmtsOf (fnOf top 828)) (envLw top L cl), lvl := 610, fr := some [], pre := [(L, frmO [eP P₀ "script" t0 (.ref X.l)] 1 #[]), (cl, cel0), (X.l, lstO X.xs X.n)],
    post := fun z => [slo (fLw P₀ X t0 z) (z.o 0), z.o 1, lstO X.xs X.n],
    new := fun z => [(z.n 2, tupO [.ref (z.n 3), .int X.SF (z.n 4), .ref (z.n 5), .ref (z.n 6)]), (z.n 3, lstO (X.S2 (z.m 2)) X.q2), (z.n 5, lstO (X.DL (z.m 3)).reverse 0), (z.n 6, lstO (X.DR (z.m 4)) X.nr),
      (z.n 7, tupO [.ref (z.n 8), .int X.SF (z.n 9), .ref (z.n 10), .ref (z.n 11)]), (z.n 8, lstO (X.D3 (z.m 5)) X.k3), (z.n 10, lstO (X.D4 (z.m 6)) X.k4), (z.n 11, lstO (X.D5 (z.m 7)) X.k5),
      (z.n 12, lstO (X.TA (z.m 0)) X.ka), (z.n 13, lstO (C3 (z.n 27) ++ X.TB (z.m 1)) 0)], res := fun z => .ok (.ret (.ref (z.n 2))) }
noncomputable def rT1T (top : KT) (P₀ : Params) (X : OL) (L cl t0 : Nat) : Sem Fin := exV (takeS (stmtsOf (fnOf top 828)) 6) (stP (nthS (stmtsOf (fnOf top 828)) 6)) (rw2 top) (envLw top L cl)
noncomputable def OL.ou (X : OL) (top : KT) (P₀ : Params) (L cl t0 : Nat) (b u0 e f g u5 : Ov) : OU :=
  { b := X.b, tb := f.n 2, tab := b.n 0 + 1, tt := X.TA (u0.m 0), nt := X.ka, st := 12, ts := u5.n 1 + 1, SS := X.S2, q := X.q2, SF := X.SF, RV := X.RV, LE := X.LE, V := X.V2, DL := X.DL, DR := X.DR, nl := X.nl, nr := X.nr,
    E1 := fEnv top 828 "law.<locals>." L [(.ofString "pool", cl)], L1 := L,
    F1 := frmO [eP P₀ "script" t0 (.ref X.l), eP P₀ "table" (u0.n 1) (.ref (b.n 0 + 1)), eP P₀ "cells" (e.n 1) (.ref (e.n 2)), eP P₀ "text" (f.n 1) (.str X.b (f.n 2)), eP P₀ "seen" (g.n 1) (.ref (g.n 3)), eP P₀ "state" (g.n 1 + 1) (.int X.SF (g.n 4)),
      eP P₀ "left" (g.n 1 + 2) (.ref (g.n 5)), eP P₀ "right" (g.n 1 + 3) (.ref (g.n 6)), eP P₀ "due" (u5.n 1) (.ref (u5.n 0))] 9 #[] }
noncomputable def rT1S (top : KT) (P₀ : Params) (X : OL) (L cl t0 m tk : Nat) (e1 e4 e5 : Bool) : Rcs :=
  .cons (fun c => rAdd X.l (ad1 c) X.xs (D9 tk) X.n 0) fun a => .cons (fun c => rSlice (a.n 2) (ad1 c) (X.xs ++ D9 tk) (X.T9 tk) 0 .none (.int 9 (a.n 1)) .none) fun b =>
  .cons (fun _ => rL0B top P₀ (X.cj P₀ L cl false (b.n 0) (b.n 2) (X.T9 tk) 0 (b.n 0 + 2) (b.n 0 + 1) 0 0 X.TA X.ka 0)) fun u0 =>
  .cons (fun c => rSlice X.l (ad1 c) X.xs X.T13 X.n (.int 9 (u0.n 1 + 4)) (.int 13 (u0.n 1 + 5)) .none) fun d =>
  .cons (fun _ => rL1B top P₀ (X.cj P₀ L cl e1 (d.n 0) (d.n 2) X.T13 0 (d.n 0 + 2) (d.n 0 + 1) 0 0 X.TB X.kb 1)) fun u1 =>
  .cons (fun c => rAdd (ad0 c) (ad1 c) (C3 (u0.n 1 + 1)) (X.TB (u1.m 0)) 0 X.kb) fun e =>
  .cons (fun _ => rL2B top P₀ (X.cj P₀ L cl false (e.n 0 + 1) (e.n 2) (C3 (u0.n 1 + 1) ++ X.TB (u1.m 0)) 0 (e.n 0 + 3) (e.n 0 + 2) (e.n 0) (e.n 1 + 1) X.TC X.kc 2)) fun u2 =>
  .cons (fun c => rJoin (ad1 c) (X.TC (u2.m 0)) X.kc (tk0 c) X.b) fun f =>
  .cons (fun c => rPln top P₀ (X.op (e.n 2) (C3 (u0.n 1 + 1) ++ X.TB (u1.m 0)) (b.n 0 + 1) (X.TA (u0.m 0)) (f.n 1 + 1))) fun g =>
  .cons (fun _ => rL3B top P₀ (X.cj P₀ L cl false (g.n 0 + 3) (g.n 3) (X.SP g.m) X.qp (g.n 0 + 5) (g.n 0 + 4) (e.n 0) (e.n 1 + 1) X.D3 X.k3 3)) fun u3 =>
  .cons (fun _ => rL4B top P₀ (X.cj P₀ L cl e4 (u3.n 0) (g.n 5) ((X.CC g.m).take X.PN) 0 (u3.n 0 + 2) (u3.n 0 + 1) (e.n 0) (e.n 1 + 1) X.D4 X.k4 4)) fun u4 =>
  .cons (fun _ => rL5B top P₀ (X.cj P₀ L cl e5 (u4.n 0) (g.n 6) ((X.CC g.m).drop X.PN) 0 (u4.n 0 + 2) (u4.n 0 + 1) (e.n 0) (e.n 1 + 1) X.D5 X.k5 5)) fun u5 =>
  .cons (fun _ => rTwo top P₀ (X.ou top P₀ L cl t0 b u0 e f g u5)) fun h =>
  .nil
noncomputable def rT1_0 (top : KT) (P₀ : Params) (X : OL) (L cl t0 : Nat) : Rc := rT1 top P₀ X L cl t0
noncomputable def rT1_0R (top : KT) (P₀ : Params) (X : OL) (L cl t0 m tk : Nat) : Rcs := rT1S top P₀ X L cl t0 m tk false false false
noncomputable def rT1_0T (top : KT) (P₀ : Params) (X : OL) (L cl t0 : Nat) : Sem Fin := rT1T top P₀ X L cl t0
noncomputable def rT1_1 (top : KT) (P₀ : Params) (X : OL) (L cl t0 : Nat) : Rc := rT1 top P₀ X L cl t0
noncomputable def rT1_1R (top : KT) (P₀ : Params) (X : OL) (L cl t0 m tk : Nat) : Rcs := rT1S top P₀ X L cl t0 m tk false true false
noncomputable def rT1_1T (top : KT) (P₀ : Params) (X : OL) (L cl t0 : Nat) : Sem Fin := rT1T top P₀ X L cl t0
noncomputable def rT1_2 (top : KT) (P₀ : Params) (X : OL) (L cl t0 : Nat) : Rc := rT1 top P₀ X L cl t0
noncomputable def rT1_2R (top : KT) (P₀ : Params) (X : OL) (L cl t0 m tk : Nat) : Rcs := rT1S top P₀ X L cl t0 m tk false false true
noncomputable def rT1_2T (top : KT) (P₀ : Params) (X : OL) (L cl t0 : Nat) : Sem Fin := rT1T top P₀ X L cl t0
noncomputable def rT1_3 (top : KT) (P₀ : Params) (X : OL) (L cl t0 : Nat) : Rc := rT1 top P₀ X L cl t0
noncomputable def rT1_3R (top : KT) (P₀ : Params) (X : OL) (L cl t0 m tk : Nat) : Rcs := rT1S top P₀ X L cl t0 m tk true false false
noncomputable def rT1_3T (top : KT) (P₀ : Params) (X : OL) (L cl t0 : Nat) : Sem Fin := rT1T top P₀ X L cl t0
noncomputable def rT1_4 (top : KT) (P₀ : Params) (X : OL) (L cl t0 : Nat) : Rc := rT1 top P₀ X L cl t0
noncomputable def rT1_4R (top : KT) (P₀ : Params) (X : OL) (L cl t0 m tk : Nat) : Rcs := rT1S top P₀ X L cl t0 m tk true true false
noncomputable def rT1_4T (top : KT) (P₀ : Params) (X : OL) (L cl t0 : Nat) : Sem Fin := rT1T top P₀ X L cl t0
noncomputable def rT1_5 (top : KT) (P₀ : Params) (X : OL) (L cl t0 : Nat) : Rc := rT1 top P₀ X L cl t0
noncomputable def rT1_5R (top : KT) (P₀ : Params) (X : OL) (L cl t0 m tk : Nat) : Rcs := rT1S top P₀ X L cl t0 m tk true false true
noncomputable def rT1_5T (top : KT) (P₀ : Params) (X : OL) (L cl t0 : Nat) : Sem Fin := rT1T top P₀ X L cl t0
/-- a value -/
noncomputable def exE (e : Expr) (env : Env) : Sem Fin := PySem.W.ZFast.zw14044960220447912780 e env >>= fun v => pure (.done (.ret v))
noncomputable def cmpR (e : Expr) : Expr := match e with | .Compare _ _ (r :: _) _ => r | _ => default
noncomputable def rwD (top : KT) (i : Nat) : Expr := cmpR (boolN (stE (nthS (stmtsOf (fnOf top 828)) 6)) i)
noncomputable def rT2 (top : KT) (P₀ : Params) (X : OL) (L cl t0 : Nat) (y : Ov) (o : Obj) : Rc :=
  { code := .func (stmtsOf (fnOf top 828)) (envLw top L cl), lvl := 610, fr := some [], pre := [(L, slo (fLw P₀ X t0 y) o)], post := fun _ => [slo (fLw P₀ X t0 y) o], new := fun _ => [], res := fun z => .ok (.ret (.ref (y.n 7))) }
noncomputable def rT2_0 (top : KT) (P₀ : Params) (X : OL) (L cl t0 : Nat) (y : Ov) (o : Obj) : Rc := rT2 top P₀ X L cl t0 y o
noncomputable def rT2_1 (top : KT) (P₀ : Params) (X : OL) (L cl t0 : Nat) (y : Ov) (o : Obj) : Rc := rT2 top P₀ X L cl t0 y o
noncomputable def rT2_0R (top : KT) (P₀ : Params) (X : OL) (L cl t0 : Nat) (y : Ov) (o : Obj) (m tk : Nat) : Rcs := .nil
noncomputable def rT2_1R (top : KT) (P₀ : Params) (X : OL) (L cl t0 : Nat) (y : Ov) (o : Obj) (m tk : Nat) : Rcs := .nil
noncomputable def rT2_0T (top : KT) (P₀ : Params) (X : OL) (L cl t0 : Nat) (y : Ov) (o : Obj) : Sem Fin := exE (rwD top 0) (envLw top L cl)
noncomputable def rT2_1T (top : KT) (P₀ : Params) (X : OL) (L cl t0 : Nat) (y : Ov) (o : Obj) : Sem Fin := exE (rwD top 1) (envLw top L cl)
/-- the second lexer's answer -/
noncomputable def OL.ow (X : OL) (y : Ov) (ts tz : Nat) : OW :=
  { b := X.b, tb := y.n 14, tab := y.n 12, tt := X.TA (y.m 0), nt := X.ka, st := 12, ts := ts, size := (C3 (y.n 27) ++ X.TB (y.m 1)).length, tz := tz, XS := X.X1, pf := X.pf, kf := X.kf, SS := X.S1, q := X.q1, SF := X.SF, PB := X.PB, kB := X.kB, V := X.V1, j := X.j }
noncomputable def rT3 (top : KT) (P₀ : Params) (X : OL) (L cl t0 : Nat) (y : Ov) (o : Obj) : Rc :=
  { code := .func (stmtsOf (fnOf top 828)) (envLw top L cl), lvl := 610, fr := some [], pre := [(L, slo (fLw P₀ X t0 y) o), (y.n 12, lstO (X.TA (y.m 0)) X.ka), (y.n 13, lstO (C3 (y.n 27) ++ X.TB (y.m 1)) 0), (785, tab0)],
    post := fun z => [slo (fLw P₀ X t0 y) o, lstO (X.TA (y.m 0)) X.ka, lstO (C3 (y.n 27) ++ X.TB (y.m 1)) 0, tab1 (z.n 9)],
    new := fun z => [(z.n 2, tupO [.ref (z.n 3), .int X.SF (z.n 4), .ref (z.n 5), .ref (z.n 6)]), (z.n 3, lstO (X.S1 z.m) X.q1), (z.n 5, lstO ((txts (X.PB z.m)).drop (X.j + 1)) 0), (z.n 6, lstO ((txts (X.PB z.m)).take X.j) 0)], res := fun z => .ok (.ret (.ref (z.n 2))) }
noncomputable def rT3R (top : KT) (P₀ : Params) (X : OL) (L cl t0 : Nat) (y : Ov) (o : Obj) (m tk : Nat) : Rcs :=
  .cons (fun _ => rLenL (y.n 13) (C3 (y.n 27) ++ X.TB (y.m 1)) 0) fun a => .cons (fun _ => rOne top P₀ (X.ow y tk (a.n 2 + 1))) fun _ => .nil
noncomputable def rT3T (top : KT) (P₀ : Params) (X : OL) (L cl t0 : Nat) (y : Ov) (o : Obj) : Sem Fin := exE (rw1 top) (envLw top L cl)
/-- the call -/
noncomputable def rLawBd (top : KT) (P₀ : Params) (X : OL) (L cl t0 : Nat) : Rc :=
  { code := .func (stmtsOf (fnOf top 828)) (envLw top L cl), lvl := 610, fr := some [], pre := [(L, frmO [eP P₀ "script" t0 (.ref X.l)] 1 #[]), (cl, cel0), (X.l, lstO X.xs X.n), (785, tab0)], post := fun z => [z.o 0, z.o 1, lstO X.xs X.n, tab1 (z.n 3)], new := fun _ => [], res := fun z => .ok (.ret (.bool true)) }
noncomputable def rLaw (top : KT) (P₀ : Params) (X : OL) : Rc :=
  { code := .call (.ref 828) ⟨[.ref X.l], []⟩, lvl := 600, fr := some [], pre := [(X.l, lstO X.xs X.n), (785, tab0)], post := fun z => [lstO X.xs X.n, tab1 (z.n 3)], new := fun _ => [], res := fun z => .ok (.ret (.bool true)) }
noncomputable def rLawR (top : KT) (P₀ : Params) (X : OL) (m tk : Nat) : Rcs := .cons (fun _ => rLawBd top P₀ X (m + 829) (m + 830) tk) fun _ => .nil
end Mine
end
end
section
open PySem PySem.W PySem.W.X PyProof.Rows PySem.Calls
noncomputable section
namespace Mine
/-! families: one check for each length -/
noncomputable def ChkM (P' : Params) (p : Program) (top : KT) (N fuel : Nat) (r : Nat → Rc) (o : Nat) (R : Nat → Nat → Nat → Rcs) (is : List Nat) (X : WX) : Prop :=
  ∀ m tk xs, mapN (fun k => lhs (runP P' p top fuel (r k) o (R k) xs m tk) is) N = mapN (fun k => rhs (runP P' p top fuel (r k) o (R k) xs m tk) (fun n t led => want (r k) (X m tk xs n t led))) N
theorem ChkM.at {P' : Params} {p : Program} {top : KT} {N fuel : Nat} {r : Nat → Rc} {o : Nat} {R : Nat → Nat → Nat → Rcs} {is : List Nat} {X : WX} (h : ChkM P' p top N fuel r o R is X) (k : Nat) (hk : k < N) : ChkP P' p top fuel (r k) o (R k) is X :=
  fun m tk xs => mapN_eq (h m tk xs) k hk
noncomputable def rDLenK (a : Addr) (st : Int) (V : Nat → Value) (k : Nat) : Rc := rDLen a st (valsV V k)
noncomputable def rDLenKR (a : Addr) (st : Int) (V : Nat → Value) (k m tk : Nat) : Rcs := .nil
noncomputable def rDPopK (a : Addr) (st : Int) (s : Str) (t : Nat) (V : Nat → Value) (k : Nat) : Rc := rDPop a st s t (valsV V k)
noncomputable def rDPopKR (a : Addr) (st : Int) (s : Str) (t : Nat) (V : Nat → Value) (k m tk : Nat) : Rcs := .nil
noncomputable def rDAppK (a : Addr) (st : Int) (s : Str) (t : Nat) (V : Nat → Value) (k : Nat) : Rc := rDApp a st s t (valsV V k)
noncomputable def rDAppKR (a : Addr) (st : Int) (s : Str) (t : Nat) (V : Nat → Value) (k m tk : Nat) : Rcs := .nil
noncomputable def rLiEK (it l : Addr) (n : Nat) (V : Nat → Value) (k : Nat) : Rc := rLiE it l (valsV V k) n k
noncomputable def rLiEKR (it l : Addr) (n : Nat) (V : Nat → Value) (k m tk : Nat) : Rcs := .nil
noncomputable def rLxTK (X : LX) (v : LV) (l : Addr) (V : Nat → Value) (k1 : Nat) (v1 : Ov → LV) (wd : Str) (wt : Ov → Nat) (D : (Nat → Nat) → List Value) (n : Nat) (E2 E1 : Env) (L2 L1 : Addr) (F2 F1 : Obj) (k : Nat) : Rc := rLxL X v l (valsV V k) k1 D n E2 E1 L2 L1 F2 F1
noncomputable def rLxTKR (X : LX) (v : LV) (l : Addr) (V : Nat → Value) (k1 : Nat) (v1 : Ov → LV) (wd : Str) (wt : Ov → Nat) (D : (Nat → Nat) → List Value) (n : Nat) (E2 E1 : Env) (L2 L1 : Addr) (F2 F1 : Obj) (k m tk : Nat) : Rcs := rLxTR X v l (valsV V k) k1 v1 wd wt D n E2 E1 L2 L1 F2 F1 m tk
end Mine
end
end
section
open PySem PySem.W PySem.W.X PyProof.Rows PySem.Calls
noncomputable section
namespace Mine
noncomputable def rReadMidF (x : PySem.Addr) (dx : PySem.Addr) (hh : Nat → Int) (kt : Nat → Nat) (b : PySem.Str) (tb : Nat) (p : Nat) (tp : Nat) (t1 : Nat) (c : Nat) (m tk : Nat) (zs : Nat → Ov) (n₀ t₀ : Nat) : Nat → Nat := fun j₀ => match j₀ with | 0 => (zs 2).n (1) | 1 => (zs 3).n (1) + 4 | _ => 0
noncomputable def rReadMidC (b₀ : Bool) (P₀ : Params) (p₀ : Program) (top : KT) : Prop := ∀ (x : PySem.Addr) (dx : PySem.Addr) (hh : Nat → Int) (kt : Nat → Nat) (b : PySem.Str) (tb : Nat) (p : Nat) (tp : Nat) (t1 : Nat) (c : Nat), Chk b₀ P₀ p₀ top 408 (rReadMid x dx hh kt b tb p tp t1 c) 86714481787607209414099096145383241587717263370472609371313280952051419913211440446559203321000951228368474652631221474282883856527968346771242381032115095435884810159909032411894161189620901706297935920215397235994234414802718705001884899392207033917989577479218811574786135984902595574234065565500998582352430615406880559159671343955936829983921218083600574309171909625716266807749239036405074841370416056332791694040164882903778771022694620835300257491682832208882118561334821423432448925707328383067364205250498659048885150169685628813106778082499093987571269632 (rReadMidR x dx hh kt b tb p tp t1 c) [5, 6] (mkX (rReadMidF x dx hh kt b tb p tp t1 c) (fun zs => fun _ _ => 0) (fun zs led => fun _ => default) (fun zs => xx 0 0 0))
noncomputable def rReadLastF (x : PySem.Addr) (dx : PySem.Addr) (hh : Nat → Int) (kt : Nat → Nat) (b : PySem.Str) (tb : Nat) (p : Nat) (tp : Nat) (t1 : Nat) (c : Nat) (m tk : Nat) (zs : Nat → Ov) (n₀ t₀ : Nat) : Nat → Nat := fun j₀ => match j₀ with | 0 => (zs 0).n (2) + 1 | 1 => (zs 3).n (1) + 4 | _ => 0
noncomputable def rReadLastC (b₀ : Bool) (P₀ : Params) (p₀ : Program) (top : KT) : Prop := ∀ (x : PySem.Addr) (dx : PySem.Addr) (hh : Nat → Int) (kt : Nat → Nat) (b : PySem.Str) (tb : Nat) (p : Nat) (tp : Nat) (t1 : Nat) (c : Nat), Chk b₀ P₀ p₀ top 391 (rReadLast x dx hh kt b tb p tp t1 c) 308071725596929047036450896774025102287869740431150267210516634549049612392975349616219216816407393467501928272977883247147033275325499157202253219026442449239607193775456872597059835499945920614105416264929723483452023048592766711331743272550015741166994170056372951019005635510090316473244011003943970601361803012123642999841975704874061214117988113926197866742244688671409250198752770016189518445129234498682940280701776798421399762003630821106927325447834419093801090544620104427977039127870560445608013257549071193651564311110286730840147167805440 (rReadLastR x dx hh kt b tb p tp t1 c) [5, 6] (mkX (rReadLastF x dx hh kt b tb p tp t1 c) (fun zs => fun _ _ => 0) (fun zs led => fun _ => default) (fun zs => xx 0 0 0))
noncomputable def rEofF (x : PySem.Addr) (dx : PySem.Addr) (hh : Nat → Int) (kt : Nat → Nat) (b : PySem.Str) (tb : Nat) (p : Nat) (tp : Nat) (t1 : Nat) (m tk : Nat) (zs : Nat → Ov) (n₀ t₀ : Nat) : Nat → Nat := fun j₀ => match j₀ with | 0 => (zs 1).n (1) | _ => 0
noncomputable def rEofC (b₀ : Bool) (P₀ : Params) (p₀ : Program) (top : KT) : Prop := ∀ (x : PySem.Addr) (dx : PySem.Addr) (hh : Nat → Int) (kt : Nat → Nat) (b : PySem.Str) (tb : Nat) (p : Nat) (tp : Nat) (t1 : Nat), Chk b₀ P₀ p₀ top 275 (rEof x dx hh kt b tb p tp t1) 19154646826353636236188642038687974778083505951733501194853362528354619083481346572192227446360948145393139588675999846569409322111577252771758170636014758865002415445383234666826175456441215646584090109195309810589913961685187548874649204806855980212654906797409691989421371538356382080336252149278127123273879444771171378132153708796246821576841463309456305859717031264256 (rEofR x dx hh kt b tb p tp t1) [3, 4] (mkX (rEofF x dx hh kt b tb p tp t1) (fun zs => fun _ _ => 0) (fun zs led => fun _ => default) (fun zs => xx 0 0 0))
noncomputable def rTok0F (x : PySem.Addr) (dx : PySem.Addr) (y : PySem.Addr) (dy : PySem.Addr) (pb : PySem.Addr) (fs : PySem.Addr) (hx : Nat → Int) (hy : Nat → Int) (kx : Nat → Nat) (ky : Nat → Nat) (vt : Nat → Nat) (b : PySem.Str) (tb : Nat) (p : Nat) (tp : Nat) (ts : Nat) (tt : Nat) (m tk : Nat) (zs : Nat → Ov) (n₀ t₀ : Nat) : Nat → Nat := fun j₀ => match j₀ with | 0 => (zs 4).n (1) + 5 | 1 => (zs 4).n (1) + 13 | 2 => (zs 3).n (2) | 3 => (zs 1).n (3) | _ => 0
noncomputable def rTok0C (b₀ : Bool) (P₀ : Params) (p₀ : Program) (top : KT) : Prop := ∀ (x : PySem.Addr) (dx : PySem.Addr) (y : PySem.Addr) (dy : PySem.Addr) (pb : PySem.Addr) (fs : PySem.Addr) (hx : Nat → Int) (hy : Nat → Int) (kx : Nat → Nat) (ky : Nat → Nat) (vt : Nat → Nat) (b : PySem.Str) (tb : Nat) (p : Nat) (tp : Nat) (ts : Nat) (tt : Nat), Chk b₀ P₀ p₀ top 1801 (rTok0 x dx y dy pb fs hx hy kx ky vt b tb p tp ts tt) 23028094791064113742681101485754320991719903534739823563660061950151322854711553862882145526774698976684082693295842549719751213140380388947169365441896081734280429320480975337671684937234804876920876667108385620645217384811894151743962332969606827893304057026436079575753541461417023456249752971931496416652356512152569344489019530501688787748626792111043971271877700917490187882102094889533413452952485473900092071090726136317874076412314433534823246220643403257610184633009595639025263453750254455317538646662560956349898402844716310407607345685479341228986047525268225162761958797642807155426893953623470362475382497686413257760922916120271488616442783317133156958258360590634278861365129526186979390758007411222635684219051027734934797983785710935636965286386034105170313019950694251009720722201110580105892187709346430477395449267966614510641002442260497202825602168262755755099493089908120137959310199415204461738765626112135370970480317991127109964603042800913747478616193890423620114810226538512777600872843673468089217891998643943316828886186975689444259168602489494817627319669379539509061699289811178778181186837620801135044450831687988093140405906010918468697862216602210212172049060867081634428353957586107844680648818637316866987961695231718141276528654668343884863809300461691968428399179146109915419873604399085851520989160244223200845236536761348888504500555402006488603264108713196018225544504519795992462150441222450352732839436296400624036389523676418210973357876256615343606813691518828473720405286976916361695624137959155191419021299316592612671597406002620151132984933097823356181568975789136540859886533432393756354216215264266496826402484103404816014448293229483917812783243088733459598155492936259500407737827796678131115497764779915211907253881528034020617131927887742160388164280272250842476757723543649807410612199926539086233572716969188082038528272697249907950933752774165549085381742715003227261656624524331591664758488759609164199365163392124834069858320040835106433250462121780783475757055479327389339147234694644500819864911399389303374002005349247993180875205098475095147886012982212436499016430683141913370446189400104904433946292443170755664072824415588022630468153162363910090723036275294709590249740804789751671452158035368318500557099793157098723390643732664344225839132199178581553203805265521231319495841500261745980519097800808992797426490991983350083437146120386053511548973799476716154399011631647331866212477339201874391682183252189721741536272521508518903387336972458602449850849312700329558771402202072103996452807960199378346898366663388920363956228189341202217365459592786911500028970706887491199301400963531397385839194497081150429040211839009782244246018364847872215681344374673069432260555255100627886484650928876350589741629440 (rTok0R x dx y dy pb fs hx hy kx ky vt b tb p tp ts tt) [7, 8, 9, 10] (mkX (rTok0F x dx y dy pb fs hx hy kx ky vt b tb p tp ts tt) (fun zs => fun _ _ => 0) (fun zs led => fun _ => default) (fun zs => xx 0 0 0))
noncomputable def rTokE0F (x : PySem.Addr) (dx : PySem.Addr) (y : PySem.Addr) (dy : PySem.Addr) (pb : PySem.Addr) (fs : PySem.Addr) (hx : Nat → Int) (hy : Nat → Int) (kx : Nat → Nat) (ky : Nat → Nat) (vt : Nat → Nat) (b : PySem.Str) (tb : Nat) (p : Nat) (tp : Nat) (ts : Nat) (tt : Nat) (m tk : Nat) (zs : Nat → Ov) (n₀ t₀ : Nat) : Nat → Nat := fun j₀ => match j₀ with | 0 => (zs 4).n (1) + 6 | 1 => (zs 2).n (2) | 2 => (zs 1).n (3) | _ => 0
noncomputable def rTokE0C (b₀ : Bool) (P₀ : Params) (p₀ : Program) (top : KT) : Prop := ∀ (x : PySem.Addr) (dx : PySem.Addr) (y : PySem.Addr) (dy : PySem.Addr) (pb : PySem.Addr) (fs : PySem.Addr) (hx : Nat → Int) (hy : Nat → Int) (kx : Nat → Nat) (ky : Nat → Nat) (vt : Nat → Nat) (b : PySem.Str) (tb : Nat) (p : Nat) (tp : Nat) (ts : Nat) (tt : Nat), Chk b₀ P₀ p₀ top 1719 (rTokE0 x dx y dy pb fs hx hy kx ky vt b tb p tp ts tt) 8917841370225858802971957138480325262198522214006154586426853075468784295572276398916746415625132251027434299501416706846541732664984806889879461119344038945842541009614723057085357588486926452473359294108173724846353110707318180625466440985959057413506159517269662161013033696979874644272497073876969970874912011128896769244500176722670490300749806849757418066464586994033930858090249217502407356968200245673337859608511510923339035148081086611030207666752635715816202530127482225889201122109401411407611806959422425781231448312619962586989902132498416769895932536724188998000128130979106435625250823442336629951186661560555957231495715419672797341379254371273283448042649081518111079840256082733072807639730725505169220402063358963974207625608901782790348585418515981640729414574023036518593675985445065568330290937534535061299908757541238749545676966674693355162788479457957696227492520526003721478031754282757535235271515600689097776477317340774050256499878274568773151962539960611200009574426303951225294018331048652892657482907555871657166995237388206078352581305162298584374508565557834040185684247203598217283665740432516188257128033763267901099841442563208512918662638224036372376249374725846929306161238903941060672381616168618617851722470641773872158692427386915073818613442006758162177449158841246694213391340553913227572939869909011531634852933660996766517456255177741472067676398559634819926125537254119279207235521709223207304744584413547731350805390097434304261034949469030643574430756125038263679367199147578024293848666705067943598221029839877107515334650947018347326259508844315230369297847880558442809937042099122065723643131777076360765009380491340817942388081210969935364192332775916282349689131409155407500767654548457099367534992192148092439028179220749411086375865978132159834108811218090578217522177625742045714976608795969456402084112386895114083056697750154849182773068613221667232940919568419423979672588308217128748120027155457980600969665406743291604919450807763281822240507010660829170051965676515965439450733149218427215823713223998843985161593666332240029769695546595654617604513907205466034660171050023713902249908758900439154362810682190466893726246612701632746547311291180367034041530393192556655226699444513347886083540045938556743665951514701129548575636456036376547229817345101614375784270305883691491952774879797289585122177802933035967137198629006753314724183610367777111189127090141288632392087689275743582174141458455492638825801411762078389639889257891899558333037660733365336938451278036216108179817220491511138574244470219468150235182273786003665624570835172099528294047238685892329642424181642921867492687974825984 (rTokE0R x dx y dy pb fs hx hy kx ky vt b tb p tp ts tt) [7, 8, 9, 10] (mkX (rTokE0F x dx y dy pb fs hx hy kx ky vt b tb p tp ts tt) (fun zs => fun _ _ => 0) (fun zs led => fun _ => default) (fun zs => xx 0 0 0))
noncomputable def rTok1F (x : PySem.Addr) (dx : PySem.Addr) (y : PySem.Addr) (dy : PySem.Addr) (pb : PySem.Addr) (fs : PySem.Addr) (hx : Nat → Int) (hy : Nat → Int) (kx : Nat → Nat) (ky : Nat → Nat) (vt : Nat → Nat) (b : PySem.Str) (tb : Nat) (p : Nat) (tp : Nat) (ts : Nat) (tt : Nat) (m tk : Nat) (zs : Nat → Ov) (n₀ t₀ : Nat) : Nat → Nat := fun j₀ => match j₀ with | 0 => (zs 7).n (1) + 5 | 1 => (zs 7).n (1) + 13 | 2 => (zs 6).n (2) | 3 => (zs 4).n (1) + 16 | _ => 0
noncomputable def rTok1C (b₀ : Bool) (P₀ : Params) (p₀ : Program) (top : KT) : Prop := ∀ (x : PySem.Addr) (dx : PySem.Addr) (y : PySem.Addr) (dy : PySem.Addr) (pb : PySem.Addr) (fs : PySem.Addr) (hx : Nat → Int) (hy : Nat → Int) (kx : Nat → Nat) (ky : Nat → Nat) (vt : Nat → Nat) (b : PySem.Str) (tb : Nat) (p : Nat) (tp : Nat) (ts : Nat) (tt : Nat), Chk b₀ P₀ p₀ top 2983 (rTok1 x dx y dy pb fs hx hy kx ky vt b tb p tp ts tt) 66181015957752722696515445593106097035492128709090443675061621393560275032436168351040455250595136444066000597060378293632237451086640573444005690154302155832685063378469403848590934110506178693025009324377029065776372629148254571715273217535583171228609561703681600755449928297103421258020309776428459979767035420224807884769819169519645313516244243692964666797465471393801026339447103850928977816541534371464987985893310912094146675979620476196732404493557986725410790222364049520764450504075068209126073931116302933766727103958700356842604353573323734467225803583724062077548074133115510026874693519221724545404759882900611794252272830781068176172787063762115185058353783565653719201643047735868976464116357806998460576384350736205519428658939928615878398275663591591186914256306490449147823522428075948315978551252460968277997154730898887113822582939414816730677532400113883341230903649606668135206356530101304370308217964845464012932778798308693050990801599704436300006612846399219136728921305742525573020515681125641988934467699479868887964779422200039753496634426115040438265769364620344105951915633838559496157092182476544043050808929787690513224986432171948837882063417348036646393774388695906547673545423550742042145977920744774308534964943714083153225698333652059971600433059583051633019019476754026987133576673557792792450531495808887376611767290350062874577290948750932821883293011058248254135371859550952807104384848971261690856730298453612326139608932300798441305443270008930546311166741537540639691574842606940163773163343656450608899529318569181262482043630221829546291209412051904265072783957625624477186783538527002707821122354227339237134618951779974010193625895829693741533819790914597700598475522157591642676216434106382491250272271056887586051036025196571095782999508193903341866755240867555421227675036980820122373337696494259644738849790293769319413292426853544750529004822393104316183623071112095111598914299163738404291462186536159210061585964834783514915597777936780443604395288494060470439293681229526076612965040787464011045130045672465254717160248754741767178687417863894919931511010505084904046269618032443231301674181729955631097118468165408423133318530154618246730648504747175781590717106671702772768880912865707393375551303802633569069345395108815418129029052249145464578306718611784756892960470547609477433801485409362900708659071628297897490418180882594853951631386114808051105882170936701593954164726279537680224393382179526895418476077202195087153226650911495589455490755831614059802407817449144795940431926284227950359625730829771007255956518547570421192058112336665632431049616842602753539113456406750745322433983255627299824880395054370224147752461895952432391671044394797974237864243101320559307333479169861580027479930965595138549361697374144195240280527077616316788826866830601317739098343989965877034905145409890407318768213681215070264633185751239866261972866836678957431345273600793776156778148746996564140173112866022676539478122635601954931622796952707034745588491085105955126670289724303404792364133076041170521133728755394299215463678366322719930752390882295257941393400454003371730917558470582318548791127278494278592829256646165856509262420879110136709753061826514601017931057328199391660538805965008237423892817138805716213737467268932657414198734904593112775671261183545852391068803250819381144683896115762685189180097195069520977866443701833642662913693674622435149762195551985081011938283419322932637512472506908493006447299735161494595374072986276806543188475703868437527924063697242579711377176571135248838463607968169339417138887550196352579247414123458281880950711525813316928961105259471529030071876820323292524126553256694012966153305207842232206761477865586868504950017988210948092916107563183621864396184327338693281973763738346189769439313017285062160748940334937028536375845603907503010208439847974146919322750871482369933870489578116306846635110329110536054678648922918895739122531732055612949486529919015040961321046246356910678439711216500474559309725797667136051123158390187691431839472392019225687257144660512429557067344016013822902887800158857268713087547981285143509469647037844095691681136058027609988277186923535089197283165355826301404834712663414655098234507318906060501615996341643608609129951312650636605109178492245609392115793082147209506886031024356522544694912407443406820742928740601624506209962558689037510963988084537446190556234307796335563244925656342201851540508168699375154131324416678416598393074522975643738993395692844883700347000756227614018853072533150479354569115144152100808385579216776143221043823973440339673958971737178112 (rTok1R x dx y dy pb fs hx hy kx ky vt b tb p tp ts tt) [10, 11, 12, 13] (mkX (rTok1F x dx y dy pb fs hx hy kx ky vt b tb p tp ts tt) (fun zs => fun _ _ => 0) (fun zs led => fun _ => default) (fun zs => xx 0 0 0))
noncomputable def rTokE1F (x : PySem.Addr) (dx : PySem.Addr) (y : PySem.Addr) (dy : PySem.Addr) (pb : PySem.Addr) (fs : PySem.Addr) (hx : Nat → Int) (hy : Nat → Int) (kx : Nat → Nat) (ky : Nat → Nat) (vt : Nat → Nat) (b : PySem.Str) (tb : Nat) (p : Nat) (tp : Nat) (ts : Nat) (tt : Nat) (m tk : Nat) (zs : Nat → Ov) (n₀ t₀ : Nat) : Nat → Nat := fun j₀ => match j₀ with | 0 => (zs 7).n (1) + 6 | 1 => (zs 5).n (2) | 2 => (zs 4).n (1) + 16 | _ => 0
noncomputable def rTokE1C (b₀ : Bool) (P₀ : Params) (p₀ : Program) (top : KT) : Prop := ∀ (x : PySem.Addr) (dx : PySem.Addr) (y : PySem.Addr) (dy : PySem.Addr) (pb : PySem.Addr) (fs : PySem.Addr) (hx : Nat → Int) (hy : Nat → Int) (kx : Nat → Nat) (ky : Nat → Nat) (vt : Nat → Nat) (b : PySem.Str) (tb : Nat) (p : Nat) (tp : Nat) (ts : Nat) (tt : Nat), Chk b₀ P₀ p₀ top 2901 (rTokE1 x dx y dy pb fs hx hy kx ky vt b tb p tp ts tt) 25629206731450690569259105641932390139467372251094895991848466004454098674227021379278750650078587997415513376789232592907986233673609335568467653784087868674284606634927500499336390061374380465498197704795199377736966364084252343784526441443598283331558089656508879984920212321359987010851171049709196112036415676580673390923279341224005223727315070132832146842199465901691474342336047649055565014699373839500056283516364821181204086657973571124905409845005197791020181225318057567959779209564194664616789274207846789772173480007292038180293488447377305957063419098144476028325367951246609242970226360237228130542240539863107751090106278743354385293672622100042986598656793057208446155893090992944845644838533083144838456893004032172635111585860873201934615419430062888648638978988945253328699457662439446763232919772979879581784375196609665792340194878933001002916936761376949179528362765783370793286854235016362248081676820659994812736641281399051089561571023424525362917378342067853085988475967187961764477711375326163062339775584731274381528429509137973081776780351611091061511641261384701681799902081063164165499675558522779071182561296953164678153196073981692709668651006233510070064610379921054795080006315520673198064482207835142925491575725868045920222359484727405585784357337765688521446712919422663183820364481294162830599481591544644021869558623101244527292751860825716597945531026315118504096452201809826072016566208460992771664715367172122066727725103656081579513894691777122025552184007600086136735875071687262313468868746135304855669881019651110177284673816914308669038506591465054485682761664338829366675478815332117760200679705442490377704475953130698835671478100320904439725238584379358913740532685824357265702852185136111032831901495326008815138989887894900631544495034491154874335114886290591125848076063512065611997194854240901262271391152034359122749413983865237113134447595948180805424402748062443807557200266428274026185078518121012382691482449174392602805998170574600059873109830368117989529986169657608052804650770446971682011374689318700946719639082450047723210091429241597700457666957527662481940410260323735158971145257056075847584839965812342489297409098992407711248127496861496350480319831525688126980187407869386164576047512330669844078646830447481982012252307454286438628932105124370138642631865990168079712789101285346754565061948924346552865794179474921335644044746243505240788905758870036379535612526565947262910821863737564170522674710931946213917309266506288212068725015147926360095629662259949543551281305254394506209150562368550040061953172720078231359323471932075988796918681465876558299684849614251995012303254214871346676493494387565803784233565627241696052414306744888036679870877834796986717060028490738358901154726833012193563500910378551765866768186684504590334230043255429196486535171014054884177994208416784920513723485393156142210170098227446856091107606186123023444519187220562993037152603790632454778155053388311088119727524820783133441520336800371997533311486677062318551731004409123376827292752286238759195282144708849329904932019140167009461686050933199708079045716872212295602454095294695411422095668609174301973661513877415303860026919228284999372823954938153687851923972381214404502659986282419280428603905287697271542296577621985400484695428745687316339079200866742260374632326280996707114929850456518411465354305183856492977574982737627409915305026419803241207109923538472409280365671395207211293309529606955760687980717111686090777311001712992193400642658075066032821665663109697374762547490329484970025047359760175705848134879874310072978935555859084403924390324674684604375152470406700140618719620864132182463450516410372350215179098637569616079549872322226005919416510673064102816359524750606120919368130641647621902824833054482677814745071530571535305358020814122846795160793842078949533386966143644679830968279975666803734620708278733816406632331172632213440230159053132481120094164378888431063948606873282324369850674139316160154015735343917389595753114185652552536406541670806384650383875950838923153537051956744858231970622122762749576603447896512138659982629148303476913584670762671216783325105992024763173561780820054197198674465475225364331132695045288268333693502765589380320876024304605217723971171893850364309319629332380030500990723022816096515722157699277121211701547791971699142677506433898457641238036458515075963181748430218404201381186759992675773698958368234029461478821251696535332936191462482246333051407483510580117504 (rTokE1R x dx y dy pb fs hx hy kx ky vt b tb p tp ts tt) [10, 11, 12, 13] (mkX (rTokE1F x dx y dy pb fs hx hy kx ky vt b tb p tp ts tt) (fun zs => fun _ _ => 0) (fun zs led => fun _ => default) (fun zs => xx 0 0 0))
noncomputable def rTok2F (x : PySem.Addr) (dx : PySem.Addr) (y : PySem.Addr) (dy : PySem.Addr) (pb : PySem.Addr) (fs : PySem.Addr) (hx : Nat → Int) (hy : Nat → Int) (kx : Nat → Nat) (ky : Nat → Nat) (vt : Nat → Nat) (b : PySem.Str) (tb : Nat) (p : Nat) (tp : Nat) (ts : Nat) (tt : Nat) (m tk : Nat) (zs : Nat → Ov) (n₀ t₀ : Nat) : Nat → Nat := fun j₀ => match j₀ with | 0 => (zs 10).n (1) + 5 | 1 => (zs 10).n (1) + 13 | 2 => (zs 9).n (2) | 3 => (zs 7).n (1) + 16 | _ => 0
noncomputable def rTok2C (b₀ : Bool) (P₀ : Params) (p₀ : Program) (top : KT) : Prop := ∀ (x : PySem.Addr) (dx : PySem.Addr) (y : PySem.Addr) (dy : PySem.Addr) (pb : PySem.Addr) (fs : PySem.Addr) (hx : Nat → Int) (hy : Nat → Int) (kx : Nat → Nat) (ky : Nat → Nat) (vt : Nat → Nat) (b : PySem.Str) (tb : Nat) (p : Nat) (tp : Nat) (ts : Nat) (tt : Nat), Chk b₀ P₀ p₀ top 4254 (rTok2 x dx y dy pb fs hx hy kx ky vt b tb p tp ts tt) 152085550834953998314674875861964716856293100259534860441243116369730150954193792882050050184835720698703860232905072234344935245775155995477681980756058510909498853409178356009509755804226950796183828429909636239782412851169163890033498855577760733311549307546721304544009644952378630959430929348033729717655152136704491958732118742449472752407802381186965986613077664730446066833814675038297570257452735431602207424830575197555550784140998789757037456028934246396193379946482527526493721281849053077076666106479803431862417590109996851077296820380800905730058861663598735679299611757677325879167556947204864644627948227165215573700053167752175067350204637110578432547168014658004348949025029132566480469604821370360745794739479282652464214910731272225557339673708241730583330413537482684279044576269210598325607853401428272003291743631892427568820847774511595849112584226856889172183559094705221236190464883597981882154484734836622100834352979759357201480497494930886796596089768528564873988974584629057372440212198188490700892400654591388839056225308538088162653750283150819086065385039044745714412559324912153788397476178524138531923057307378292501508669676201696406149698798199982106043864021451304644884324433152746406369121444902799321478088188754656419503831187738654813159945222061032634717255627488173049396619488778693817715908097086582823985888586349186113282662547177093765616133180184780861287912428407316415236801450144801462524234705541036656079454419265828080336953595254215386707056073404666183847021702968169880338317823669885008473184601271121446340282319925226392275072216704324121433988527331755256763806766912098292020697814864344933850142369127043180598401873320503705289210275098495120418173747122764802634461904344364581053842802531236888815491014143168578497893883813478925246769534199823264132011488755978249064597909724134387973456981365637674302037247197620613335650346191928755315833251731833892603106705620736106609536600551742325328334740764919579682371745946205034539041294620109226274799457873495513992521417442242757214824566963007614273153408265407783524513930085343912333423976916284993326753828882309434375784844478671271845695450011782527445518415661287009974592387374889117175410991247522356766692612636326089086653247165454132524679126306672678211123279285892769055531376513723732632695437918985568894027453336509863602413034052972148240414708389876363607265152686091348452788989592656984728957740198243659213816522236755225605616687521771061013138471268987098517196707249011102157313402706152247200298541253268369385518756748981844668941146295411916966839067292253218654946802867304371480500356825523790646079660894299383308778256262539608600771937883615977987006534128318438683142482186830150978682166545050148015687150579740689778731760730456600331149203850299835945787061933912498734049522278024362814245358546788130120538455707368920676638861416288187937073582457287050870473691330582069781121987821086373492373369724018313112652953591802010737568286192652551743912325351067516103214149235592896944123470447304871512650236283520209540416866467518469057957288875010207941586289538174969686812960297046417865311487346092415602263257419862523745013357687947307537899010401543530348907132012099214292670949324933954750918738444093996936107950487823446772356776862948171212022158448944176540497737472787716742955586275182553997598568901588669834019346029195906347870953405177310048897983628160054608584653707145811001184989423770550707275785548192252424066220714868639672993181310726504808324401570210878639543364134273708890363381363895333641593992832051058068992806962665571016279103585780947426051543718894015821465436164115001949271233059007894866561486250859366971475294479259194866057046951619186665244138929387425151699715161744630500290402615473385830665931415841758468289994137229376173364945345466926389919253606337434724331174609326438498007395842601395103177433465355063335471879778639774646925189142982359738897509665731725390943300663716229537307092808235916503973678981381378641526389248296309351649876748371072950473198237676895470638164555408877368968130449485932060698698103064978344502390307736426828364884336696297621737769920998451879419192661053668111029224161843701654461021258526294041610878133354106033092333346527542494906329356222190518499341492289173511093615112892995359130080678288557548456687291071950646457428232356786499715218482453065266534836474283828491850168996651943393677012282154560107096743946571578670982658863121129121399361213814263096706141807562197787303880044796993421836107113390549604219153576359790797316628886179220190669090168384579745174002963611766966563076857079363398339242500321342841506866526465935287159958141759560970562958842122748443422065189093080951167277519332423252561687742313469205331333101824221766947182417529347626470829599134158704588996104090533508742855679637840934671499965733432283714243054393397667037183212876315303834080688167343105497850169755145309242502943621389957916668573003384604327302871150327027883214010397033299109952820215269680119136936143213188326602040697726684915838227869676069499490671297466450767071298523547461957290809978329620932776795789517946627318469951458778313196976095336032294916510850009038690463382336185115837027290648843184856901048872756568757291859100572784523767113636597696640804229094018754665082546377691594878107369867496338956933770922898009785311395548220711806789540670400846950223059884193416464821627902641991915743377767207586908010098020846036266833821693432608014478380108938439829117054923174586553617230238020969064961489308447010965312754661541195800501183968209330981709647217859383002486780248042446199009059452286379009100908149940625409534497234028425039968901382547213344136443898460156921203160596064503874615958018761273950614205060312290801423479843574302240979040979409481487364421411428245663382021462303613728009816145779428814088727344661260512595242880721482687792847138086159685437769861630003278198551373642271548939941373797500762022986401902316040772647949769955444901520909583132496545277981413492459882745854353146143174267200209401767257075959490678132239456589887941718772429059836504735541045422526331812034094964154182674965045295697016391949765538385383113667133139334497913695135095870319996971129517125481751580824504669651883071148301950359268224842031151032046076266029242917174777523057485217403246031202645940637542625160850548820534534853077544612718586896823514767848248244226290231776447795366487354952465549025681752670006636355602672391797936253139856031019471276665346205839865277683287832855013032657753416160394674176 (rTok2R x dx y dy pb fs hx hy kx ky vt b tb p tp ts tt) [13, 14, 15, 16] (mkX (rTok2F x dx y dy pb fs hx hy kx ky vt b tb p tp ts tt) (fun zs => fun _ _ => 0) (fun zs led => fun _ => default) (fun zs => xx 0 0 0))
noncomputable def rTokE2F (x : PySem.Addr) (dx : PySem.Addr) (y : PySem.Addr) (dy : PySem.Addr) (pb : PySem.Addr) (fs : PySem.Addr) (hx : Nat → Int) (hy : Nat → Int) (kx : Nat → Nat) (ky : Nat → Nat) (vt : Nat → Nat) (b : PySem.Str) (tb : Nat) (p : Nat) (tp : Nat) (ts : Nat) (tt : Nat) (m tk : Nat) (zs : Nat → Ov) (n₀ t₀ : Nat) : Nat → Nat := fun j₀ => match j₀ with | 0 => (zs 10).n (1) + 6 | 1 => (zs 8).n (2) | 2 => (zs 7).n (1) + 16 | _ => 0
noncomputable def rTokE2C (b₀ : Bool) (P₀ : Params) (p₀ : Program) (top : KT) : Prop := ∀ (x : PySem.Addr) (dx : PySem.Addr) (y : PySem.Addr) (dy : PySem.Addr) (pb : PySem.Addr) (fs : PySem.Addr) (hx : Nat → Int) (hy : Nat → Int) (kx : Nat → Nat) (ky : Nat → Nat) (vt : Nat → Nat) (b : PySem.Str) (tb : Nat) (p : Nat) (tp : Nat) (ts : Nat) (tt : Nat), Chk b₀ P₀ p₀ top 4172 (rTokE2 x dx y dy pb fs hx hy kx ky vt b tb p tp ts tt) 58896527452884783979110147831332999669743653531182636597459983519570137867928694646962388655774440101412357394845776402429476204479923310426686898595694661479082473450994677088388277700627753092214302383734676103655726150324229311551596117798654485171005321588678007312226875418001504969955420863142044479676203291452068250732098239453982277066779820837378588639851648199463722735535069294529549599906523219944261918649355800118756036480247422563240734267172867058557950285181061999891189504878391997058394853899269028637976488013512121582993805307018738269727325614899996957501481445890446052433485047597757691616430555401263000864193902493784741854327997176533408848537175200284741359217891505996525056092929047711629236604534956903164204213733437019100183943013118407411103932090119158632439174764471539675139624147694139998508442348232725967672238226392677660064908552160467038291275176757377508075462800439991812136986885977439522569030282558318140300471392373021178005340988532383213899280317263498445466141751463369155267076224803289378519405874478549349483548859555138223661351272153652854483868681518082783532378547116298212124524425370326455351375829914051115431970730374348348255559695952427896285533852366541694465495196179938183454594030553277799900687108697362018548316184849251853123937977513066395515514125614616019013453708331805154287037879292674593499999298806026795436123531417236336844105750786745074347958804401039244034686992610210884906118062571215637471070379101455998487181064731789226307710002106245857126341095968092601344192805855638326765941775244621554046087846663676716090786762023835518584117076644567069737657977628244467264282919135207217593868516535280745937284360504634730150149702104093227184458202572004105363436625865303063719611171063527837900387052949716433380344985099793888225789692454254098824816036568124760186290124363207918092131976801919705195846086003445706918225007873851119287733260856109697853621138469612930809477008773982526185833487483678529702029139428593152705225959115328490715172525875904026690352188834931580069745374470229985243760703005736486795856893723598559966734449413476684441794860706803634098408058492804594772393465587933774151417817782381749287250079448610570399869400923302658069773108092158590392306359807417058291535509670347131883258775791043939990221383812669271421195499878327402821587491990014839246832319052875037442738806565717275684422315438940766753896621714961185877049190411859719920347408328960315277642139735222616667837317112405315526472339258987233123432906722595860906013650442543810767882054612885172575431353893333650659625929784614911799680911875711896904584980352287614203318893588206595639115763283665363067198643781628623344639108167387331914570988384785729958248981180415987787918592583516266728905582565736936213710725797337573595752913224516579357492339487116209857196252218341540342434162322452853710267796563043325880657011477935312852101798635216474445814555927734605855287462281115179078721566792106112467517622058781521806895952775282570086975847261295134568199552991975053161624714686153194430761882161893655835949170430197388348227890029653584915775863923562487935764989206030615074768597018734286603547646437720002798292333630049861603614074712499209749737460965093658546824072094326778224774390874615610683619861374634849162050047339079907605168879734539854494443395864493176544349982064747370186041403009884974621058766331911939107079712714069949413864068752751731575565388419205250528749664011318669182579650509181186342495315052253153443730466260297000840672171201238606476468556635029758001350885076617402152325400897345393283439679982909339373903702284372785961499520764866396891157327599813454945760079011726303070527397749121405899240854482679549113971698514083813748645934047989248042554408645225039808302688670080204230147592896168086305005098035707721846849848039162654373773571141697920613289554283043998058514092452192091459707009454130338408014668429653596895647219359289094935661650039354383769009862339817593878118704677680428292763361409834536701845946312014798422654255464596636323791994831583432763306815886145440789220907159905861841958220241602249491147376007408378697006827883453162818250202947226492698028082819731415454104428740847661177488104062540678467942622933328634215959420729918608308693389643867677186969163752811066382692755782550210906088152639177112752454421329125155967133451693150329368364376889166310049251729130278854679639095541214039630582821106395441029376932833834842561439197858290292938552733953341479914973648283297937045878742359923320622245277372861694321884673848522061368570844007919055536728612562565180267791768102139720422987181204552739257090786163652872131334345706894767103675351473363554113067008004622148616460693724551711293880547535480731538054664651396673938784509398028863672324784394704186552584581488930436694137880426254628343063108131495783674415283273005396908389330098356238336537467609458430239477303191277364488606199944802003876252735750702503762219136155533277774997419281832475960340637017704699766883254279708449300951878175155077618151742227245785707447568340995247939818701700028174334609545492320829125809419278512466601335656736771594778322052438234837277635977230051916627218775571799768320565917407832181484340294586536031030227682402582540548337626344958019623169945282408742353266574147830928572086279982210735815729093131973449346733501986565494531092439157745545921748575819069537946396276672056308330174751531141737189960924239643730464883011992922075462229509864740795685804153789378997158500084351502448666883219806345930829536915722727782105356804981869441366368478674565617590667531295728993033920414400965055488738011263044684635520108982262320723466284262150454370798915421935582566136724764342550106569858375454844076228322730215284230484731169041771849218452653157006773863587764924513355507789807192086619301592829437036384146572109165337321330303624648181678675473338409056672183159619727707297045529112855830205001839904238457401253313946383594108803976424115193478060842958154512244974397455418081123633623238513375522745290914521075443432404078180222253927730786673203658210504374932832209665516416756372173803828288289927882283283633224453126996604647101065093955871957571595941476058160316537918585508242728774975489196973309974855824515365024205269632222890526271238075293894081152524866337426251681451565909473303216772840633827584084693909352873576092425670970046454976710830974162362506181410816 (rTokE2R x dx y dy pb fs hx hy kx ky vt b tb p tp ts tt) [13, 14, 15, 16] (mkX (rTokE2F x dx y dy pb fs hx hy kx ky vt b tb p tp ts tt) (fun zs => fun _ _ => 0) (fun zs led => fun _ => default) (fun zs => xx 0 0 0))
noncomputable def rTok3F (x : PySem.Addr) (dx : PySem.Addr) (y : PySem.Addr) (dy : PySem.Addr) (pb : PySem.Addr) (fs : PySem.Addr) (hx : Nat → Int) (hy : Nat → Int) (kx : Nat → Nat) (ky : Nat → Nat) (vt : Nat → Nat) (b : PySem.Str) (tb : Nat) (p : Nat) (tp : Nat) (ts : Nat) (tt : Nat) (m tk : Nat) (zs : Nat → Ov) (n₀ t₀ : Nat) : Nat → Nat := fun j₀ => match j₀ with | 0 => (zs 5).n (1) + 5 | 1 => (zs 5).n (1) + 13 | 2 => (zs 4).n (2) | 3 => (zs 2).n (1) + 16 | _ => 0
noncomputable def rTok3C (b₀ : Bool) (P₀ : Params) (p₀ : Program) (top : KT) : Prop := ∀ (x : PySem.Addr) (dx : PySem.Addr) (y : PySem.Addr) (dy : PySem.Addr) (pb : PySem.Addr) (fs : PySem.Addr) (hx : Nat → Int) (hy : Nat → Int) (kx : Nat → Nat) (ky : Nat → Nat) (vt : Nat → Nat) (b : PySem.Str) (tb : Nat) (p : Nat) (tp : Nat) (ts : Nat) (tt : Nat), Chk b₀ P₀ p₀ top 2195 (rTok3 x dx y dy pb fs hx hy kx ky vt b tb p tp ts tt) 3322317310666642791110325466663570057952776825027554672982023709657476313398126588698750917271496102532422192078617686712422031734281736840353176696551127694485833696757336975619735472369094200326269960118684402173087471338605882455425775277663976886899993018346997405512090391497579517315721490590169107130812679717634394045041602467277861270862655702732190849325393874934868016846360621898657028974845437245658310052683721621447189037836438788495858949792374684084425426483392324626316257052753901691951059561986987769763241195251872027274371632285007816794514686327778243583209794819099964248683001274780086941606423018089469751701471108709669829883229718952529940112421711321919120360058624325195383660056600955286994443589263341850970810916310958927880284820986367518503237712015279011140564381482434346188437945902981078999514438043596987974214266046641313316610288141130745704001466516201562170269972969192504777510497841075239827435980115524895375140835003321627256049847717060348817933184905491040761544235329949889822281809930410579646465985005406528294446415420190793551312261050051710735442107744690582520060087369106356663523876433083011544964426759659639753533263503629752567788725700391086558565377602863235212924758237235581657065308373918552880653677001109228966244797937500783603745358750370633471592554924117037800177362076472569761265175606274170810713356209694914081976740061993461634951987718307794310417704829512148065443119062407569853621872743944099203038378520827703982198970708037385694741234408057121802128108850064662172577868302540937680449632423848086007140801980202696557735067001607208664558264194491931775856006214455975711552626346683737924483106320715178284722379614754532956282415959183868095936916390555424635555519836851401689981942970814936788895992433573834362826832688827815014363984082183808551364625227019965778283150389732005367736563901126715967365309260547581578807019348100104474111580132143103508871130596420350428069160964916293024191903585864133186111628094747975651281004433226420061453848560580852875028711756890606763100942742714322973431830039266127029160024792210297371778359769363599029353699619062311100587552714779224710167415466711838697967177593080133737836821828295145984321228600094616449555677947485533369464297563497984777401644296767485584595537502482267561468319291970211317387347473584865354637366140452545529079908753660520837942607254114490688057874638282064235836221737532358562816875306223716983030328162204478314569331031945573823052883247718056155906381857003763084380936262822740798872053005272414684438063135256311686149520884026170249163014755208039330941716412743787218016882613888025652494013179705863503604761994252593382937641734412312678959279572780313756717842585213730708007766129349397781483186454819163308829834800459067996068543417671487326592957563249248066251463538581009238088343999426605703013413876287075387801021823079130224465451915954111423821516451264311896817944066657555730402378932577861439049756957527944583098750036785353718456811351702528281125060837466182933900039815444127401159478272819854729043835616391892347120441250493318389704799555064292850238614389919489465018587895496466629587771824090543723551339926672868765119843956409460066841973432054021207344577197434874052087894563150514331892462915984274012350561726447144117998705668470477111903500296712582487871060725985589379578562936832 (rTok3R x dx y dy pb fs hx hy kx ky vt b tb p tp ts tt) [8, 9, 10, 11] (mkX (rTok3F x dx y dy pb fs hx hy kx ky vt b tb p tp ts tt) (fun zs => fun _ _ => 0) (fun zs led => fun _ => default) (fun zs => xx 0 0 0))
noncomputable def rTokE3F (x : PySem.Addr) (dx : PySem.Addr) (y : PySem.Addr) (dy : PySem.Addr) (pb : PySem.Addr) (fs : PySem.Addr) (hx : Nat → Int) (hy : Nat → Int) (kx : Nat → Nat) (ky : Nat → Nat) (vt : Nat → Nat) (b : PySem.Str) (tb : Nat) (p : Nat) (tp : Nat) (ts : Nat) (tt : Nat) (m tk : Nat) (zs : Nat → Ov) (n₀ t₀ : Nat) : Nat → Nat := fun j₀ => match j₀ with | 0 => (zs 5).n (1) + 6 | 1 => (zs 3).n (2) | 2 => (zs 2).n (1) + 16 | _ => 0
noncomputable def rTokE3C (b₀ : Bool) (P₀ : Params) (p₀ : Program) (top : KT) : Prop := ∀ (x : PySem.Addr) (dx : PySem.Addr) (y : PySem.Addr) (dy : PySem.Addr) (pb : PySem.Addr) (fs : PySem.Addr) (hx : Nat → Int) (hy : Nat → Int) (kx : Nat → Nat) (ky : Nat → Nat) (vt : Nat → Nat) (b : PySem.Str) (tb : Nat) (p : Nat) (tp : Nat) (ts : Nat) (tt : Nat), Chk b₀ P₀ p₀ top 2113 (rTokE3 x dx y dy pb fs hx hy kx ky vt b tb p tp ts tt) 1286597915585157162242907504111953970602551322489223558582631235902458311724968249898679282475763839639714286786182897585424046105778581805338766611380709582524477749660932390191090976884158957927382514905768838165207632895928445757250058099992726771091616302326286693309424061207696916161613749940005421204958268319687038421744825725459416884200561698834463150624337744772132660645685807268524514132944770452828467956184992467822257152727933611425788585007293519371339256214637895032106796664313104389388269630279902140892376549711906709204292209042453902498113115050344030500246784830035045345097724415668492182352358905568122459261461786213276544995744380556073789896403592786334721345219504061551418886088493367500316214565692439913618811253035410142975882291838651259563873796890634809504150270902773714823955171503123041460168421693707822061682480867758340587024928826793690117814502061891736253644264485130572724782614472101312628735248060308277210519960844933052042927176590975721516499461523973651364711542428529663247444271777320599455894514982972046282877713725170320692422330768396072917548915921678942690273199500777087373600818489024116083242414304535144866155192492111346413992652069641865364303275515799063621613024708339513031216938680141971406041936665173606870238147671363098428494211137143785955445484729867075959412416972315630468188951257643116747159804044748023998093185653917691030411026932413031080602844236541601743554259479209724660467199462836080744952133600042066329943265759223753929110551585438886011170060033295030019727605815624520648519468772909775299150764304788101743322541696075856162693494355538790024668461137214749124565167326056989546550024846692129614319717018872994391128634369895038624165538299631670056947509610307323676500209549312332105177234731638166094260127399898512602441744967355559252015755770668352660730299214109332274624247152885104559606917959667564761947534083946492174478682026982198781790133698318248898137107345907234615458554402517548917316761699093823084964950330428006194928728902748558124853555570852920099233893505272361263919338752213045949277868057163116716062962701623810773553374553331866093217626994046114821466415164555432687276775128491391676904958772908878791157453850690147745358333624769922132567222544309464640906982653450367176275511021662124656871522730223034548504100014604835520460202835559845351034320823467016502776542063973211048463989215779500000149285622678851812194739791398943128298748620203771929049515838097333210803109278169751579552232079639262797830162693340021240925045894375379704881658001342496947325223939640363374866507517754832218012960934786759312441528445752371585906234503194499238556919531793525982195253887699951757038379794411296709412309760399396105522112342627743359487193166961399233049568457305963895822122974835362052965904370862200321932118545697906775271710522798104129481608568831043964881389592932713641568350958137561206855177704115815525564667556700896233234836132947285685714230858657290876521660670034729435437993105525523409243275176571819486311171765541920340286937675842935078188934786945822571320531208342363307282290127024647121715786374493047583494027897177683244390711738634430673862051614444036379464643726549302593953172067971121697925948664925192192 (rTokE3R x dx y dy pb fs hx hy kx ky vt b tb p tp ts tt) [8, 9, 10, 11] (mkX (rTokE3F x dx y dy pb fs hx hy kx ky vt b tb p tp ts tt) (fun zs => fun _ _ => 0) (fun zs led => fun _ => default) (fun zs => xx 0 0 0))
noncomputable def rTokNF (x : PySem.Addr) (dx : PySem.Addr) (y : PySem.Addr) (dy : PySem.Addr) (pb : PySem.Addr) (fs : PySem.Addr) (hx : Nat → Int) (hy : Nat → Int) (kx : Nat → Nat) (ky : Nat → Nat) (vt : Nat → Nat) (b : PySem.Str) (tb : Nat) (p : Nat) (tp : Nat) (tt : Nat) (m tk : Nat) (zs : Nat → Ov) (n₀ t₀ : Nat) : Nat → Nat := fun j₀ => match j₀ with | 0 => (zs 0).n (1) + 10 | _ => 0
noncomputable def rTokNC (b₀ : Bool) (P₀ : Params) (p₀ : Program) (top : KT) : Prop := ∀ (x : PySem.Addr) (dx : PySem.Addr) (y : PySem.Addr) (dy : PySem.Addr) (pb : PySem.Addr) (fs : PySem.Addr) (hx : Nat → Int) (hy : Nat → Int) (kx : Nat → Nat) (ky : Nat → Nat) (vt : Nat → Nat) (b : PySem.Str) (tb : Nat) (p : Nat) (tp : Nat) (tt : Nat), Chk b₀ P₀ p₀ top 365 (rTokN x dx y dy pb fs hx hy kx ky vt b tb p tp tt) 129963804454991869286446549711635308315771255322973953960168791231633513310924791092043138940152401470001936044978140921532257792299333996310002753498226621810143109937382685100059402666020938274548448105970880945645625741536044698701277877843447278255831373421609823792712517207781215140444004505335888471392300673885575731878326414393939883993018532124939680657570662369711423959649026656546845414161876825872946807228146814693285805811934305637706749050968360403712722653254241112601423037073453815579319209722507983610798211072 (rTokNR x dx y dy pb fs hx hy kx ky vt b tb p tp tt) [2, 3, 4, 5] (mkX (rTokNF x dx y dy pb fs hx hy kx ky vt b tb p tp tt) (fun zs => fun _ _ => 0) (fun zs led => fun _ => default) (fun zs => xx 0 0 0))
noncomputable def rTokZF (x : PySem.Addr) (dx : PySem.Addr) (y : PySem.Addr) (dy : PySem.Addr) (pb : PySem.Addr) (fs : PySem.Addr) (hx : Nat → Int) (hy : Nat → Int) (kx : Nat → Nat) (ky : Nat → Nat) (vt : Nat → Nat) (b : PySem.Str) (tb : Nat) (p : Nat) (tp : Nat) (ts : Nat) (tt : Nat) (m tk : Nat) (zs : Nat → Ov) (n₀ t₀ : Nat) : Nat → Nat := fun j₀ => match j₀ with | 0 => (zs 0).n (1) + 13 | _ => 0
noncomputable def rTokZC (b₀ : Bool) (P₀ : Params) (p₀ : Program) (top : KT) : Prop := ∀ (x : PySem.Addr) (dx : PySem.Addr) (y : PySem.Addr) (dy : PySem.Addr) (pb : PySem.Addr) (fs : PySem.Addr) (hx : Nat → Int) (hy : Nat → Int) (kx : Nat → Nat) (ky : Nat → Nat) (vt : Nat → Nat) (b : PySem.Str) (tb : Nat) (p : Nat) (tp : Nat) (ts : Nat) (tt : Nat), Chk b₀ P₀ p₀ top 402 (rTokZ x dx y dy pb fs hx hy kx ky vt b tb p tp ts tt) 189942313004723911938841519299303358959082124504531582415656900066120777587044173471418054479936383135966112711666598658356857421438311696845044701461323173191377320809795671171204871163464286172632687902390212292271413683299178344121057787823551937804675566789105238739050587338875009321330644422527922269705096856118602391496470692740550174096228943687909419642946640779880949443043700114659885939885277471899142433465427765551228519638112312285228661487184715211884024169267713634834169898488675866028367336760696324561252245860979123468582973076511620228718634924964835295232 (rTokZR x dx y dy pb fs hx hy kx ky vt b tb p tp ts tt) [2, 3, 4, 5] (mkX (rTokZF x dx y dy pb fs hx hy kx ky vt b tb p tp ts tt) (fun zs => fun _ _ => 0) (fun zs led => fun _ => default) (fun zs => xx 0 0 0))
noncomputable def rGetPF (x : PySem.Addr) (dx : PySem.Addr) (y : PySem.Addr) (pb : PySem.Addr) (fs : PySem.Addr) (hx : Nat → Int) (kx : Nat → Nat) (vt : Nat → Nat) (s1 : PySem.Value) (t1 : PySem.Value) (sp : Int) (s : PySem.Str) (t : Nat) (xs : List PySem.Value) (m tk : Nat) (zs : Nat → Ov) (n₀ t₀ : Nat) : Nat → Nat := fun j₀ => match j₀ with | _ => 0
noncomputable def rGetPC (b₀ : Bool) (P₀ : Params) (p₀ : Program) (top : KT) : Prop := ∀ (x : PySem.Addr) (dx : PySem.Addr) (y : PySem.Addr) (pb : PySem.Addr) (fs : PySem.Addr) (hx : Nat → Int) (kx : Nat → Nat) (vt : Nat → Nat) (s1 : PySem.Value) (t1 : PySem.Value) (sp : Int) (s : PySem.Str) (t : Nat) (xs : List PySem.Value), Chk b₀ P₀ p₀ top 102 (rGetP x dx y pb fs hx kx vt s1 t1 sp s t xs) 799167771784661273420494523270374441426471207871565053050331614274782213579859350539458494913876667622720485054914948008118906088970031489731330048 (rGetPR x dx y pb fs hx kx vt s1 t1 sp s t xs) [1, 2, 3] (mkX (rGetPF x dx y pb fs hx kx vt s1 t1 sp s t xs) (fun zs => fun _ _ => 0) (fun zs led => fun _ => default) (fun zs => xx 0 0 0))
noncomputable def rPushF (x : PySem.Addr) (dx : PySem.Addr) (y : PySem.Addr) (pb : PySem.Addr) (fs : PySem.Addr) (hx : Nat → Int) (kx : Nat → Nat) (vt : Nat → Nat) (s1 : PySem.Value) (t1 : PySem.Value) (sp : Int) (s : PySem.Str) (t : Nat) (xs : List PySem.Value) (m tk : Nat) (zs : Nat → Ov) (n₀ t₀ : Nat) : Nat → Nat := fun j₀ => match j₀ with | _ => 0
noncomputable def rPushC (b₀ : Bool) (P₀ : Params) (p₀ : Program) (top : KT) : Prop := ∀ (x : PySem.Addr) (dx : PySem.Addr) (y : PySem.Addr) (pb : PySem.Addr) (fs : PySem.Addr) (hx : Nat → Int) (kx : Nat → Nat) (vt : Nat → Nat) (s1 : PySem.Value) (t1 : PySem.Value) (sp : Int) (s : PySem.Str) (t : Nat) (xs : List PySem.Value), Chk b₀ P₀ p₀ top 74 (rPush x dx y pb fs hx kx vt s1 t1 sp s t xs) 107648287061055732796267148699559562279048990950191172771325555391285468722199221474045542542268325494784 (rPushR x dx y pb fs hx kx vt s1 t1 sp s t xs) [1, 2, 3] (mkX (rPushF x dx y pb fs hx kx vt s1 t1 sp s t xs) (fun zs => fun _ _ => 0) (fun zs led => fun _ => default) (fun zs => xx 0 0 0))
noncomputable def rGetWF (x : PySem.Addr) (dx : PySem.Addr) (y : PySem.Addr) (dy : PySem.Addr) (pb : PySem.Addr) (fs : PySem.Addr) (hx : Nat → Int) (kx : Nat → Nat) (vt : Nat → Nat) (s1 : PySem.Value) (t1 : PySem.Value) (yd : PySem.Obj) (S2 : Mine.Zn → PySem.Value) (T2 : Mine.Zn → PySem.Value) (Y2 : Mine.Zn → PySem.Obj) (sp : Int) (wd : PySem.Str) (wt : Mine.Zn → Nat) (m tk : Nat) (zs : Nat → Ov) (n₀ t₀ : Nat) : Nat → Nat := fun j₀ => (zs 0).n j₀
noncomputable def rGetWC (b₀ : Bool) (P₀ : Params) (p₀ : Program) (top : KT) : Prop := ∀ (x : PySem.Addr) (dx : PySem.Addr) (y : PySem.Addr) (dy : PySem.Addr) (pb : PySem.Addr) (fs : PySem.Addr) (hx : Nat → Int) (kx : Nat → Nat) (vt : Nat → Nat) (s1 : PySem.Value) (t1 : PySem.Value) (yd : PySem.Obj) (S2 : Mine.Zn → PySem.Value) (T2 : Mine.Zn → PySem.Value) (Y2 : Mine.Zn → PySem.Obj) (sp : Int) (wd : PySem.Str) (wt : Mine.Zn → Nat), Chk b₀ P₀ p₀ top 163 (rGetW x dx y dy pb fs hx kx vt s1 t1 yd S2 T2 Y2 sp wd wt) 1707012000057836950454424721368013784874878271667331021124615371347284729043858997031133926828501334911747568728159149942957529324478089307121462698911938208440944204201130798202568821565423545253973962852720379258188294054808595169728387940352 (rGetWR x dx y dy pb fs hx kx vt s1 t1 yd S2 T2 Y2 sp wd wt) [1, 2, 3, 4, 5] (mkX (rGetWF x dx y dy pb fs hx kx vt s1 t1 yd S2 T2 Y2 sp wd wt) (fun zs => (zs 0).m) (fun zs led => (zs 0).o) (fun zs => zs 0))
noncomputable def rGetNF (x : PySem.Addr) (dx : PySem.Addr) (y : PySem.Addr) (dy : PySem.Addr) (pb : PySem.Addr) (fs : PySem.Addr) (hx : Nat → Int) (kx : Nat → Nat) (vt : Nat → Nat) (s1 : PySem.Value) (t1 : PySem.Value) (yd : PySem.Obj) (S2 : Mine.Zn → PySem.Value) (T2 : Mine.Zn → PySem.Value) (Y2 : Mine.Zn → PySem.Obj) (sp : Int) (sf : Int) (m tk : Nat) (zs : Nat → Ov) (n₀ t₀ : Nat) : Nat → Nat := fun j₀ => (zs 0).n j₀
noncomputable def rGetNC (b₀ : Bool) (P₀ : Params) (p₀ : Program) (top : KT) : Prop := ∀ (x : PySem.Addr) (dx : PySem.Addr) (y : PySem.Addr) (dy : PySem.Addr) (pb : PySem.Addr) (fs : PySem.Addr) (hx : Nat → Int) (kx : Nat → Nat) (vt : Nat → Nat) (s1 : PySem.Value) (t1 : PySem.Value) (yd : PySem.Obj) (S2 : Mine.Zn → PySem.Value) (T2 : Mine.Zn → PySem.Value) (Y2 : Mine.Zn → PySem.Obj) (sp : Int) (sf : Int), Chk b₀ P₀ p₀ top 182 (rGetN x dx y dy pb fs hx kx vt s1 t1 yd S2 T2 Y2 sp sf) 446109628285425610602226631604288141717937179828580407993354055499824977568043061614654475795027166334107218744297533117012837726642538303250099373589488812723467734339475518865647172087817925834494430739775007145662121801333719172786476354696784560819669431390072963686739387426603008 (rGetNR x dx y dy pb fs hx kx vt s1 t1 yd S2 T2 Y2 sp sf) [1, 2, 3, 4, 5, 6] (mkX (rGetNF x dx y dy pb fs hx kx vt s1 t1 yd S2 T2 Y2 sp sf) (fun zs => (zs 0).m) (fun zs led => (zs 0).o) (fun zs => zs 0))
noncomputable def rRule0F (tb : PySem.Addr) (xs : List PySem.Value) (n : Nat) (st : Int) (ts : Nat) (tw : Nat) (x : Int) (tx : Nat) (ww : PySem.Str) (on : Bool) (j : Nat) (m tk : Nat) (zs : Nat → Ov) (n₀ t₀ : Nat) : Nat → Nat := fun j₀ => match j₀ with | 0 => (zs 7).n (0) | 1 => (zs 1).n (1) + 1 + (j) | 2 => (zs 7).n (2) | _ => 0
noncomputable def rRule0C (b₀ : Bool) (P₀ : Params) (p₀ : Program) (top : KT) : Prop := ∀ (tb : PySem.Addr) (xs : List PySem.Value) (n : Nat) (st : Int) (ts : Nat) (tw : Nat) (x : Int) (tx : Nat) (ww : PySem.Str) (on : Bool) (j : Nat), Chk b₀ P₀ p₀ top 137 (rRule0 tb xs n st ts tw x tx ww on j) 188254079940838395814745626067845389604097881737229990548994084715357429561427369344485150390556664842619797726365919129929423259462336512 (rRule0R tb xs n st ts tw x tx ww on j) [4, 0] (mkX (rRule0F tb xs n st ts tw x tx ww on j) (fun zs => fun _ _ => 0) (fun zs led => fun _ => default) (fun zs => xx 0 0 0))
noncomputable def rRule1F (tb : PySem.Addr) (xs : List PySem.Value) (n : Nat) (st : Int) (ts : Nat) (tw : Nat) (x : Int) (tx : Nat) (ww : PySem.Str) (on : Bool) (j : Nat) (m tk : Nat) (zs : Nat → Ov) (n₀ t₀ : Nat) : Nat → Nat := fun j₀ => match j₀ with | 0 => (zs 7).n (0) | 1 => (zs 1).n (1) + 1 + (j) | 2 => (zs 7).n (2) | _ => 0
noncomputable def rRule1C (b₀ : Bool) (P₀ : Params) (p₀ : Program) (top : KT) : Prop := ∀ (tb : PySem.Addr) (xs : List PySem.Value) (n : Nat) (st : Int) (ts : Nat) (tw : Nat) (x : Int) (tx : Nat) (ww : PySem.Str) (on : Bool) (j : Nat), Chk b₀ P₀ p₀ top 137 (rRule1 tb xs n st ts tw x tx ww on j) 188254079940838395814745626067845389604097881737229990548994084715357429561427369344485150390556664842619797726365919129929423259462336512 (rRule1R tb xs n st ts tw x tx ww on j) [4, 0] (mkX (rRule1F tb xs n st ts tw x tx ww on j) (fun zs => fun _ _ => 0) (fun zs led => fun _ => default) (fun zs => xx 0 0 0))
noncomputable def rRule2F (tb : PySem.Addr) (xs : List PySem.Value) (n : Nat) (st : Int) (ts : Nat) (tw : Nat) (x : Int) (tx : Nat) (ww : PySem.Str) (on : Bool) (j : Nat) (m tk : Nat) (zs : Nat → Ov) (n₀ t₀ : Nat) : Nat → Nat := fun j₀ => match j₀ with | 0 => (zs 7).n (0) | 1 => (zs 1).n (1) + 1 + (j) | 2 => (zs 7).n (2) | _ => 0
noncomputable def rRule2C (b₀ : Bool) (P₀ : Params) (p₀ : Program) (top : KT) : Prop := ∀ (tb : PySem.Addr) (xs : List PySem.Value) (n : Nat) (st : Int) (ts : Nat) (tw : Nat) (x : Int) (tx : Nat) (ww : PySem.Str) (on : Bool) (j : Nat), Chk b₀ P₀ p₀ top 137 (rRule2 tb xs n st ts tw x tx ww on j) 188254079940838395814745626067845389604097881737229990548994084715357429561427369344485150390556664842619797726365919129929423259462336512 (rRule2R tb xs n st ts tw x tx ww on j) [4, 0] (mkX (rRule2F tb xs n st ts tw x tx ww on j) (fun zs => fun _ _ => 0) (fun zs led => fun _ => default) (fun zs => xx 0 0 0))
noncomputable def rRule3F (tb : PySem.Addr) (xs : List PySem.Value) (n : Nat) (st : Int) (ts : Nat) (tw : Nat) (x : Int) (tx : Nat) (ww : PySem.Str) (on : Bool) (j : Nat) (m tk : Nat) (zs : Nat → Ov) (n₀ t₀ : Nat) : Nat → Nat := fun j₀ => match j₀ with | 0 => (zs 7).n (0) | 1 => (zs 1).n (1) + 1 + (j) | 2 => (zs 7).n (2) | _ => 0
noncomputable def rRule3C (b₀ : Bool) (P₀ : Params) (p₀ : Program) (top : KT) : Prop := ∀ (tb : PySem.Addr) (xs : List PySem.Value) (n : Nat) (st : Int) (ts : Nat) (tw : Nat) (x : Int) (tx : Nat) (ww : PySem.Str) (on : Bool) (j : Nat), Chk b₀ P₀ p₀ top 137 (rRule3 tb xs n st ts tw x tx ww on j) 188254079940838395814745626067845389604097881737229990548994084715357429561427369344485150390556664842619797726365919129929423259462336512 (rRule3R tb xs n st ts tw x tx ww on j) [4, 0] (mkX (rRule3F tb xs n st ts tw x tx ww on j) (fun zs => fun _ _ => 0) (fun zs led => fun _ => default) (fun zs => xx 0 0 0))
noncomputable def rStreamF (b : PySem.Str) (tb : Nat) (m tk : Nat) (zs : Nat → Ov) (n₀ t₀ : Nat) : Nat → Nat := fun j₀ => match j₀ with | 0 => m + 834 | 1 => m + 833 | 2 => m + 836 | 3 => m + 844 | 4 => m + 830 | 5 => m + 831 | 6 => m + 837 | 7 => m + 843 | 8 => tk + 3 | 9 => tk + 8 | 10 => tk + 15 | 11 => m + 832 | 12 => tk | 13 => 0 | 14 => 0 | 15 => 0 | 16 => 0 | 17 => 0 | 18 => tk + 5 | 19 => tk + 7 | 20 => tk + 10 | 21 => tk + 12 | 22 => tk + 25 | _ => 0
noncomputable def rStreamC (b₀ : Bool) (P₀ : Params) (p₀ : Program) (top : KT) : Prop := ∀ (b : PySem.Str) (tb : Nat), Chk b₀ P₀ p₀ top 275 (rStream top b tb) 103378330160120815078544824720213982853566158314263742028466582435278965101398897201015202767051083451007435206470765234465698990986576519761392521241934300718873370771899049812262991125172433287455615495423194682761066067252010781674701756302474989215765167121779278316709029342729557682637677999045239913030632756309736089046201619143535214948028497195711766591869331443319659603446623218830845953173826339733504 (rStreamR top b tb) [16, 10, 11, 0, 1, 14, 13, 12] (mkX (rStreamF b tb) (fun zs => fun _ _ => 0) (fun zs led => fun j₁ => match j₁ with | 0 => ob led 11 | 1 => ob led 1 | _ => default) (fun zs => xx 0 0 0))
noncomputable def rGiveF (W : Mine.NX) (p : Nat) (tp : Nat) (t : Nat) (c : Nat) (m tk : Nat) (zs : Nat → Ov) (n₀ t₀ : Nat) : Nat → Nat := fun j₀ => match j₀ with | 0 => (zs 0).n (1) + 4 | 1 => (zs 0).n (2) | _ => 0
noncomputable def rGiveC (b₀ : Bool) (P₀ : Params) (p₀ : Program) (top : KT) : Prop := ∀ (W : Mine.NX) (p : Nat) (tp : Nat) (t : Nat) (c : Nat), Chk b₀ P₀ p₀ top 107 (rGive top W p tp t c) 5756366730372978210777201260393412481812592532546529135301910089012345317328624562482213462609465647036194623253753805342557406822913 (rGiveR top W p tp t c) [2, 3, 4, 5, 6] (mkX (rGiveF W p tp t c) (fun zs => fun _ _ => 0) (fun zs led => fun _ => default) (fun zs => xx 0 0 0))
noncomputable def rRdcF (W : Mine.NX) (p : Nat) (tp : Nat) (c : Nat) (m tk : Nat) (zs : Nat → Ov) (n₀ t₀ : Nat) : Nat → Nat := fun j₀ => match j₀ with | 0 => (zs 0).n (2) | 1 => (zs 0).n (3) | _ => 0
noncomputable def rRdcC (b₀ : Bool) (P₀ : Params) (p₀ : Program) (top : KT) : Prop := ∀ (W : Mine.NX) (p : Nat) (tp : Nat) (c : Nat), Chk b₀ P₀ p₀ top 84 (rRdc top W p tp c) 2850347938434873513424689451124313399046443616891740105936633744058230724095948551707597549984184058500624571463164135619564633391104 (rRdcR top W p tp c) [1, 2, 3, 4, 5, 6, 7, 8, 9] (mkX (rRdcF W p tp c) (fun zs => fun _ _ => 0) (fun zs led => fun _ => default) (fun zs => xx 0 0 0))
noncomputable def rNA0F (W : Mine.NX) (p : Nat) (tp : Nat) (k : Nat) (m tk : Nat) (zs : Nat → Ov) (n₀ t₀ : Nat) : Nat → Nat := fun j₀ => match j₀ with | 0 => (zs 2).n (2) | 1 => (zs 1).n (3) | _ => 0
noncomputable def rNA0C (b₀ : Bool) (P₀ : Params) (p₀ : Program) (top : KT) : Prop := ∀ (W : Mine.NX) (p : Nat) (tp : Nat) (k : Nat), Chk b₀ P₀ p₀ top 298 (rNA0 top W p tp k) 7230937713450706059331555904214920648345566262642188850781478330162504962193549970091709413316755094501769085047276091470106801881068403914425166290339514169455898058726172084339278205691427211242862863799747230622833799370752245200064975510364371389264931450925626141332742780367138378830552183477312246197149640393840456261916324682054853748275449618363265862006112005353701796292524260827283501696957882765230299174730208339336126110118459646660742244370284544 (rNA0R top W p tp k) [3, 4, 5, 6, 7, 8, 9, 10, 11, 12] (mkX (rNA0F W p tp k) (fun zs => fun _ _ => 0) (fun zs led => fun _ => default) (fun zs => xx 0 0 0))
noncomputable def rNB0F (W : Mine.NX) (p : Nat) (tp : Nat) (k : Nat) (m tk : Nat) (zs : Nat → Ov) (n₀ t₀ : Nat) : Nat → Nat := fun j₀ => match j₀ with | 0 => (zs 3).n (2) | 1 => (zs 2).n (3) | _ => 0
noncomputable def rNB0C (b₀ : Bool) (P₀ : Params) (p₀ : Program) (top : KT) : Prop := ∀ (W : Mine.NX) (p : Nat) (tp : Nat) (k : Nat), Chk b₀ P₀ p₀ top 353 (rNB0 top W p tp k) 16982165133424237209772917465389903912829084215974480106751840945454615582763985256296135270616945671899727371825132617304305505515798005493641961459944357262084863302263340091735218225071384928909418540882208691266230887367849225537294690886150925460172901667728421430715554376055007644063442009407925777738579516037081779520296282407074632626645403157225061140884981561542712737972125657672171335125660343789262875715438931080320042570912039231910999044564623007021103125752702266101457889017067697806714941432439479513821135381577667484800693767184018085406974391943168 (rNB0R top W p tp k) [3, 4, 5, 6, 7, 8, 9, 10, 11, 12] (mkX (rNB0F W p tp k) (fun zs => fun _ _ => 0) (fun zs led => fun _ => default) (fun zs => xx 0 0 0))
noncomputable def rNA1F (W : Mine.NX) (p : Nat) (tp : Nat) (k : Nat) (m tk : Nat) (zs : Nat → Ov) (n₀ t₀ : Nat) : Nat → Nat := fun j₀ => match j₀ with | 0 => (zs 5).n (2) | 1 => (zs 4).n (1) + 3 | _ => 0
noncomputable def rNA1C (b₀ : Bool) (P₀ : Params) (p₀ : Program) (top : KT) : Prop := ∀ (W : Mine.NX) (p : Nat) (tp : Nat) (k : Nat), Chk b₀ P₀ p₀ top 487 (rNA1 top W p tp k) 70467758614451837353319281132614452603797865635017756236188088884887831708113180875838690204291817032145932197634524363649045136933559893935691981663365798892792986422859436389823332389698080520844371732017269846357723932024537083961603806491275890940200754207113948082759348809681152252075283259828050931474445987602496592182107332808346093823981574546042226539901664033574096326368143665166856608789689186260163262510180437835523399422936410927386720690602087769535290172831318347916891856667956718859037070610604000392765278521723375807381308679973382364879265518433148169009633868352192973777386890771747174400413810334645054802076786461944090632575937138542259845817940955382396502329133402051874503493996723464438714926806856361744823049265414144 (rNA1R top W p tp k) [3, 4, 5, 6, 7, 8, 9, 10, 11, 12] (mkX (rNA1F W p tp k) (fun zs => fun _ _ => 0) (fun zs led => fun _ => default) (fun zs => xx 0 0 0))
noncomputable def rNB1F (W : Mine.NX) (p : Nat) (tp : Nat) (k : Nat) (m tk : Nat) (zs : Nat → Ov) (n₀ t₀ : Nat) : Nat → Nat := fun j₀ => match j₀ with | 0 => (zs 6).n (2) | 1 => (zs 5).n (1) + 3 | _ => 0
noncomputable def rNB1C (b₀ : Bool) (P₀ : Params) (p₀ : Program) (top : KT) : Prop := ∀ (W : Mine.NX) (p : Nat) (tp : Nat) (k : Nat), Chk b₀ P₀ p₀ top 542 (rNB1 top W p tp k) 165496531818667753723166528903561995021695375633208655231964979033556369269008920184895213629848136001941046303748802858736690277490451891426136219016516761503794109355414329572475260372738066429085351126269476459240763677171195644491469680805230008203659595535343707497715543132989855933631865516692492732048740800082787099298389668505356802638482683550883189803226305936845478235929834364642996971031628324968103682774941125127388070914867526550676447397557462905636106701700325098467690445102148942408059010927309427574560632155844824827960816528779991890020384910239918261878132003234393698347833243682577197580008867903628260631709566653792838471319375685233235546269689184524182703761013331929474095116056375453356698920356034439658164919535054593413968086248627484434383836331959813272639259631910052340109576255702334816093240188708843780702420684832768 (rNB1R top W p tp k) [3, 4, 5, 6, 7, 8, 9, 10, 11, 12] (mkX (rNB1F W p tp k) (fun zs => fun _ _ => 0) (fun zs led => fun _ => default) (fun zs => xx 0 0 0))
noncomputable def rNA2F (W : Mine.NX) (p : Nat) (tp : Nat) (k : Nat) (m tk : Nat) (zs : Nat → Ov) (n₀ t₀ : Nat) : Nat → Nat := fun j₀ => match j₀ with | 0 => (zs 8).n (2) | 1 => (zs 7).n (1) + 1 | _ => 0
noncomputable def rNA2C (b₀ : Bool) (P₀ : Params) (p₀ : Program) (top : KT) : Prop := ∀ (W : Mine.NX) (p : Nat) (tp : Nat) (k : Nat), Chk b₀ P₀ p₀ top 644 (rNA2 top W p tp k) 2218945711696330849467928022305173926313086535203359491556840865640989065206213104258773574756019490097783407806029570456312977777156386557974956549816501502151575007095407887800112562317689018371975837619834971262126362883120846846895988176277664196586874972075565784221506893689145650516487452484068974864307162296066736835110946219416031376478791759195118861110960539423509576614017944905219048145080925072269358416206309106277141700913664227685980697435401599122780880479163125140110082572687743683488746182569202006609109341058072465248123403331820403071367884003512127914131789166701115956798020894408065635499353517993435050571064038404299401292287031136076022875849837691680476933059841755076495467311554077269952548758898058585769742282352789635101792517772331784794671540299261192785471765733446016691879179114802979095032723675391061882051680405460878092205783497700156552604906763527815854611700664144436306009472801085028429341257435415208160067245288742056888376894923109825703984781760749735558316032 (rNA2R top W p tp k) [3, 4, 5, 6, 7, 8, 9, 10, 11, 12] (mkX (rNA2F W p tp k) (fun zs => fun _ _ => 0) (fun zs led => fun _ => default) (fun zs => xx 0 0 0))
noncomputable def rNB2F (W : Mine.NX) (p : Nat) (tp : Nat) (k : Nat) (m tk : Nat) (zs : Nat → Ov) (n₀ t₀ : Nat) : Nat → Nat := fun j₀ => match j₀ with | 0 => (zs 9).n (2) | 1 => (zs 8).n (1) + 1 | _ => 0
noncomputable def rNB2C (b₀ : Bool) (P₀ : Params) (p₀ : Program) (top : KT) : Prop := ∀ (W : Mine.NX) (p : Nat) (tp : Nat) (k : Nat), Chk b₀ P₀ p₀ top 699 (rNB2 top W p tp k) 5211288492782222375729153504880957286342873710522817453812379619163094306132620652884416111019353925953964533197879941853961146936267428451346468755578880861578605961343639946981049712689307590892540155161038146611488829389577331406079960932630766412343195964861713294063281236002503449487595027085169048447189469728673007963472955871560988603998214034137180617755025697248033332012899106383703517273846380424710684427219471381132874539980824964252860232886251182450047393524718935005224101285193272638329739569180559253936369565625057354767953253923651344759201933584958301140444788938157318710506953183672610966855062339815433241805872593712571126014472012890249603508655427100371796915052443797085035503368296261148061217677796792327216523427703450957127545299812143766610341849812694546641890649079119931168718281802433928318694146763877855387666651958232591799656410598466005265825395150125838543117422190909843884164085373886939139142560689719319516488997098993762571928310352867107382787028052292504851407073452510343340062918389914736385275795307657304918953766475974878537029862691782137156751343677237035448467456 (rNB2R top W p tp k) [3, 4, 5, 6, 7, 8, 9, 10, 11, 12] (mkX (rNB2F W p tp k) (fun zs => fun _ _ => 0) (fun zs led => fun _ => default) (fun zs => xx 0 0 0))
noncomputable def rNA3F (W : Mine.NX) (p : Nat) (tp : Nat) (k : Nat) (m tk : Nat) (zs : Nat → Ov) (n₀ t₀ : Nat) : Nat → Nat := fun j₀ => match j₀ with | 0 => (zs 3).n (2) | 1 => (zs 2).n (1) + 3 | _ => 0
noncomputable def rNA3C (b₀ : Bool) (P₀ : Params) (p₀ : Program) (top : KT) : Prop := ∀ (W : Mine.NX) (p : Nat) (tp : Nat) (k : Nat), Chk b₀ P₀ p₀ top 361 (rNA3 top W p tp k) 15445189213482296699815303750610750205695771197474168827058602751507910927797625169019861705798526301714198208924365296574529116256415368746858768154146998551445779687367885469736983623478028276087199650227856261703812369298344012406253820008637710775256986719100537368449010447584696765961953085430317220804282281751522074276417389054205992472419836829064585734705192796012590761531155196100954671618991345820567126777940898551825585751963648508674135502329140023832140042609790514112084212841467268964925832753805140825102203924845091566941420308490992287744 (rNA3R top W p tp k) [3, 4, 5, 6, 7, 8, 9, 10, 11, 12] (mkX (rNA3F W p tp k) (fun zs => fun _ _ => 0) (fun zs led => fun _ => default) (fun zs => xx 0 0 0))
noncomputable def rNB3F (W : Mine.NX) (p : Nat) (tp : Nat) (k : Nat) (m tk : Nat) (zs : Nat → Ov) (n₀ t₀ : Nat) : Nat → Nat := fun j₀ => match j₀ with | 0 => (zs 4).n (2) | 1 => (zs 3).n (1) + 3 | _ => 0
noncomputable def rNB3C (b₀ : Bool) (P₀ : Params) (p₀ : Program) (top : KT) : Prop := ∀ (W : Mine.NX) (p : Nat) (tp : Nat) (k : Nat), Chk b₀ P₀ p₀ top 416 (rNB3 top W p tp k) 36273684566862262927107106075295646415387719563432414956496138157340510833862614521079826177691949814100044223772721411784263392940732653214850436831949404611457100334106648655159893934583271048336591735376187645375634271488245925660666394088661392011055701515077231963426628373487396944367308087783495067948922043742458374370316143202456681875102979009322358394774424490275644350240747759414731525576137225672354962565731256842403632887721489334928486414045171179637425846647161418974809085425458441923104343839464461059073906360516292599503624393360340344216971606688671755587091261850512649448314918121321246211583520954595685060709735606018875594467540327655866368 (rNB3R top W p tp k) [3, 4, 5, 6, 7, 8, 9, 10, 11, 12] (mkX (rNB3F W p tp k) (fun zs => fun _ _ => 0) (fun zs led => fun _ => default) (fun zs => xx 0 0 0))
noncomputable def rNPopF (W : Mine.NX) (xs : List PySem.Value) (s : PySem.Str) (t : Nat) (k : Nat) (m tk : Nat) (zs : Nat → Ov) (n₀ t₀ : Nat) : Nat → Nat := fun j₀ => match j₀ with | _ => 0
noncomputable def rNPopC (b₀ : Bool) (P₀ : Params) (p₀ : Program) (top : KT) : Prop := ∀ (W : Mine.NX) (xs : List PySem.Value) (s : PySem.Str) (t : Nat) (k : Nat), Chk b₀ P₀ p₀ top 67 (rNPop W xs s t k) 420507529293356215829599517345292463975212770082614006531268421134070232332436244326256370959758983168 (rNPopR W xs s t k) [1, 2, 3] (mkX (rNPopF W xs s t k) (fun zs => fun _ _ => 0) (fun zs led => fun _ => default) (fun zs => xx 0 0 0))
noncomputable def rNPushF (W : Mine.NX) (xs : List PySem.Value) (s : PySem.Str) (t : Nat) (k : Nat) (m tk : Nat) (zs : Nat → Ov) (n₀ t₀ : Nat) : Nat → Nat := fun j₀ => match j₀ with | _ => 0
noncomputable def rNPushC (b₀ : Bool) (P₀ : Params) (p₀ : Program) (top : KT) : Prop := ∀ (W : Mine.NX) (xs : List PySem.Value) (s : PySem.Str) (t : Nat) (k : Nat), Chk b₀ P₀ p₀ top 48 (rNPush W xs s t k) 316349883289917401604151096353690425586525293475287161148880781312 (rNPushR W xs s t k) [1, 2, 3] (mkX (rNPushF W xs s t k) (fun zs => fun _ _ => 0) (fun zs led => fun _ => default) (fun zs => xx 0 0 0))
noncomputable def rShNewF (b : PySem.Str) (tb : Nat) (m tk : Nat) (zs : Nat → Ov) (n₀ t₀ : Nat) : Nat → Nat := fun j₀ => match j₀ with | 0 => m + 830 | 1 => m + 829 | 2 => m + 836 | 3 => m + 839 | 4 => m + 840 | 5 => tk + 66 | 6 => tk + 77 | 7 => m + 835 | 8 => tk + 20 | 9 => 0 | 10 => 0 | 11 => 0 | 12 => 0 | 13 => 0 | 14 => 0 | 15 => 0 | 16 => 0 | 17 => 0 | 18 => tk + 33 | 19 => tk + 35 | 20 => tk + 37 | 21 => tk + 39 | 22 => tk + 42 | 23 => tk + 45 | 24 => tk + 54 | 25 => tk + 56 | 26 => tk + 59 | 27 => tk + 62 | 28 => tk + 65 | 29 => tk + 68 | 30 => tk + 70 | 31 => tk + 73 | 32 => tk + 76 | 33 => tk + 79 | 34 => tk + 81 | 35 => tk + 83 | 36 => tk + 87 | 37 => 0 | 38 => 0 | 39 => 0 | 40 => 0 | 41 => 0 | 42 => 0 | 43 => 0 | 44 => 0 | 45 => 0 | 46 => 0 | 47 => 0 | 48 => tk + 40 | 49 => tk + 49 | 50 => tk + 52 | 51 => tk + 57 | 52 => tk + 60 | 53 => tk + 63 | 54 => tk + 71 | 55 => tk + 74 | 56 => tk + 84 | 57 => 0 | 58 => 0 | 59 => 0 | 60 => 0 | 61 => 0 | 62 => 0 | 63 => 0 | 64 => 0 | 65 => 0 | 66 => 0 | 67 => 0 | 68 => tk + 16 | 69 => tk + 19 | 70 => tk + 22 | _ => 0
noncomputable def rShNewC (b₀ : Bool) (P₀ : Params) (p₀ : Program) (top : KT) : Prop := ∀ (b : PySem.Str) (tb : Nat), Chk b₀ P₀ p₀ top 1246 (rShNew b tb) 21470876412528889060555461314345228644040822165477908125561424935432389616406976866423528077029553385725982757588516335931342200164540813615298928187174615624425359333482045321974263619041328715492786636775924226280223512810743428603617264627309364573684465037936457587289262438390695069980917135376331571925379361775135455309374368988649313550739450706226333447507042895997480139977850915992807188989550971186925038214996442054983788034085825157229329407076014216353560698213703790612914593737805151706286297366192843591359897594082422158879070115508067942202948723514107271958213919758135385199268863371523917752613828477837716689730314605146883321086646654363803238687130791671054204309088917426034382601298921473834104989657070763129458726595381006578881793147876594104223207228630007554068736495104730266050556185797188656304832230900623707542889880503851332759116198153377039309857634702092617861771629964001809900484156416465355761717291090563799755134687568474384524852699119060042885498602475399040372609829427330727983014944351049920249485896354826759724498544111339831081835547254282225781458356591902686753803369618972274231477526147511736898857638972916530337869370053305830267481266260500383645519606934628336245157062670062991197369022792429749206414186823190275160833441881129517947706763313911291357811518453053617807433295504276013271021969266857375000375954520591679729902928226035552777276130278524851876226268716893666391799713971119462069931734931101487656494500612848741388585422663784239582184412883645286807159999570990931281502893023839214002140530790149689773586764359930198073990151697890206677448555921573840501546636200984037237616589998870615877756757377626950850008372163775813967650673726369962892680746335328969798611106532646433345081047594280920072791095095924668298385436722176226511299901116172803239383833602439630294318351072737518422406477186846311238192671551470412221576294992721082051676999340885183950597382345801300437848666422850474136320168913478030970851639116175757812864909312 (rShNewR b tb) [10, 11, 4, 5, 1, 0] (mkX (rShNewF b tb) (fun zs => fun _ _ => 0) (fun zs led => fun j₁ => match j₁ with | 0 => ob led 11 | 1 => ob led 5 | _ => default) (fun zs => xx 0 0 0))
noncomputable def rRdLEF (W : Mine.NX) (it : Nat) (L : Nat) (t0 : Nat) (t1 : Nat) (much : Nat) (tm : Nat) (kx : List PySem.DictEntry) (n : Nat) (xs : List PySem.Value) (k : Nat) (c : Nat) (m tk : Nat) (zs : Nat → Ov) (n₀ t₀ : Nat) : Nat → Nat := fun j₀ => match j₀ with | _ => 0
noncomputable def rRdLEC (b₀ : Bool) (P₀ : Params) (p₀ : Program) (top : KT) : Prop := ∀ (W : Mine.NX) (it : Nat) (L : Nat) (t0 : Nat) (t1 : Nat) (much : Nat) (tm : Nat) (kx : List PySem.DictEntry) (n : Nat) (xs : List PySem.Value) (k : Nat) (c : Nat), Chk b₀ P₀ p₀ top 19 (rRdLE top P₀ W it L t0 t1 much tm kx n xs k c) 72340172821299201 (rRdLER top P₀ W it L t0 t1 much tm kx n xs k c) [2, 3, 4, 5, 6] (mkX (rRdLEF W it L t0 t1 much tm kx n xs k c) (fun zs => fun _ _ => 0) (fun zs led => fun j₁ => match j₁ with | 0 => ob led 2 | 1 => ob led 3 | _ => default) (fun zs => xx 0 0 0))
noncomputable def rRdLFF (W : Mine.NX) (it : Nat) (L : Nat) (t0 : Nat) (t1 : Nat) (much : Nat) (tm : Nat) (s : PySem.Str) (t : Nat) (xs : List PySem.Value) (k : Nat) (c : Nat) (r : Nat) (fin : List PySem.Value) (kf : Nat) (m tk : Nat) (zs : Nat → Ov) (n₀ t₀ : Nat) : Nat → Nat := fun j₀ => match j₀ with | _ => 0
noncomputable def rRdLFC (b₀ : Bool) (P₀ : Params) (p₀ : Program) (top : KT) : Prop := ∀ (W : Mine.NX) (it : Nat) (L : Nat) (t0 : Nat) (t1 : Nat) (much : Nat) (tm : Nat) (s : PySem.Str) (t : Nat) (xs : List PySem.Value) (k : Nat) (c : Nat) (r : Nat) (fin : List PySem.Value) (kf : Nat), Chk b₀ P₀ p₀ top 61 (rRdLF top P₀ W it L t0 t1 much tm s t xs k c r fin kf) 678909654534565311362808679164475924905959692821000027510080996268706122053221559462099066971862963368515720966270226186371329 (rRdLFR top P₀ W it L t0 t1 much tm s t xs k c r fin kf) [0, 1, 2, 3, 4] (mkX (rRdLFF W it L t0 t1 much tm s t xs k c r fin kf) (fun zs => fun _ _ => 0) (fun zs led => fun j₁ => match j₁ with | 0 => ob led 0 | 1 => ob led 1 | _ => default) (fun zs => xx 0 0 0))
noncomputable def rRdLTF (W : Mine.NX) (it : Nat) (L : Nat) (t0 : Nat) (t1 : Nat) (t2 : Nat) (much : Nat) (tm : Nat) (kv : Int) (tv : Nat) (s : PySem.Str) (t : Nat) (xs : List PySem.Value) (k : Nat) (c : Nat) (r : Nat) (fin : List PySem.Value) (kf : Nat) (m tk : Nat) (zs : Nat → Ov) (n₀ t₀ : Nat) : Nat → Nat := fun j₀ => match j₀ with | _ => 0
noncomputable def rRdLTC (b₀ : Bool) (P₀ : Params) (p₀ : Program) (top : KT) : Prop := ∀ (W : Mine.NX) (it : Nat) (L : Nat) (t0 : Nat) (t1 : Nat) (t2 : Nat) (much : Nat) (tm : Nat) (kv : Int) (tv : Nat) (s : PySem.Str) (t : Nat) (xs : List PySem.Value) (k : Nat) (c : Nat) (r : Nat) (fin : List PySem.Value) (kf : Nat), Chk b₀ P₀ p₀ top 61 (rRdLT top P₀ W it L t0 t1 t2 much tm kv tv s t xs k c r fin kf) 678909654534565311362808679164475924905959692821000027510080996268706122053221559462099066971862963368515720966270226186371329 (rRdLTR top P₀ W it L t0 t1 t2 much tm kv tv s t xs k c r fin kf) [0, 1, 2, 3, 4] (mkX (rRdLTF W it L t0 t1 t2 much tm kv tv s t xs k c r fin kf) (fun zs => fun _ _ => 0) (fun zs led => fun j₁ => match j₁ with | 0 => ob led 0 | 1 => ob led 1 | _ => default) (fun zs => xx 0 0 0))
noncomputable def rRoundF (W : Mine.NX) (xs : List PySem.Value) (k : Nat) (much : Nat) (t : Nat) (fin : List PySem.Value) (kf : Nat) (m tk : Nat) (zs : Nat → Ov) (n₀ t₀ : Nat) : Nat → Nat := fun j₀ => match j₀ with | _ => 0
noncomputable def rRoundC (b₀ : Bool) (P₀ : Params) (p₀ : Program) (top : KT) : Prop := ∀ (W : Mine.NX) (xs : List PySem.Value) (k : Nat) (much : Nat) (t : Nat) (fin : List PySem.Value) (kf : Nat), Chk b₀ P₀ p₀ top 49 (rRound top P₀ W xs k much t fin kf) 8861923399745281907342134883935312885203440453081321398302101557752168448 (rRoundR top P₀ W xs k much t fin kf) [3, 4, 5] (mkX (rRoundF W xs k much t fin kf) (fun zs => fun _ _ => 0) (fun zs led => fun _ => default) (fun zs => xx 0 0 0))
noncomputable def rLineF (sr : PySem.Addr) (m tk : Nat) (zs : Nat → Ov) (n₀ t₀ : Nat) : Nat → Nat := fun j₀ => match j₀ with | 0 => m + 830 | 1 => m + 829 | 2 => m + 832 | 3 => 0 | 4 => 0 | 5 => 0 | 6 => 0 | 7 => 0 | 8 => tk + 2 | 9 => tk + 7 | 10 => 0 | 11 => 0 | 12 => 0 | 13 => 0 | 14 => 0 | 15 => 0 | 16 => 0 | 17 => 0 | 18 => tk + 4 | 19 => tk + 6 | 20 => tk + 9 | 21 => tk + 11 | _ => 0
noncomputable def rLineC (b₀ : Bool) (P₀ : Params) (p₀ : Program) (top : KT) : Prop := ∀ (sr : PySem.Addr), Chk b₀ P₀ p₀ top 176 (rLine sr) 11015275907010707611218150594507794341416754878837726379211921973922648797558754523733349066592921337677508180524846796115146561948134758898314276386430871780259624147287130520854380938787838315770683881562467833097294873324410670835686026281473517628689723511480841903077768661201995481788991787694555136 (rLineR sr) [2, 3, 0] (mkX (rLineF sr) (fun zs => fun _ _ => 0) (fun zs led => fun j₁ => match j₁ with | 0 => ob led 3 | _ => default) (fun zs => xx 0 0 0))
noncomputable def rC1EF (W : Mine.NX) (it : PySem.Addr) (L : PySem.Addr) (ns : PySem.Addr) (acc : PySem.Addr) (cl : PySem.Addr) (kx : List PySem.DictEntry) (n : Nat) (ys : List PySem.Value) (k : Nat) (kp : Nat) (p : Nat) (tp : Nat) (c : Nat) (m tk : Nat) (zs : Nat → Ov) (n₀ t₀ : Nat) : Nat → Nat := fun j₀ => match j₀ with | _ => 0
noncomputable def rC1EC (b₀ : Bool) (P₀ : Params) (p₀ : Program) (top : KT) : Prop := ∀ (W : Mine.NX) (it : PySem.Addr) (L : PySem.Addr) (ns : PySem.Addr) (acc : PySem.Addr) (cl : PySem.Addr) (kx : List PySem.DictEntry) (n : Nat) (ys : List PySem.Value) (k : Nat) (kp : Nat) (p : Nat) (tp : Nat) (c : Nat), Chk b₀ P₀ p₀ top 18 (rC1E top P₀ W it L ns acc cl kx n ys k kp p tp c) 72340172821299201 (rC1ER top P₀ W it L ns acc cl kx n ys k kp p tp c) [2, 3, 4, 5, 6, 7, 8, 9, 10, 11, 12, 13, 14, 15] (mkX (rC1EF W it L ns acc cl kx n ys k kp p tp c) (fun zs => fun _ _ => tp) (fun zs led => fun j₁ => match j₁ with | 0 => ob led 2 | _ => default) (fun zs => xx 0 0 0))
noncomputable def rC1FF (W : Mine.NX) (it : PySem.Addr) (L : PySem.Addr) (ns : PySem.Addr) (acc : PySem.Addr) (cl : PySem.Addr) (ys : List PySem.Value) (k : Nat) (kp : Nat) (p : Nat) (tp : Nat) (c : Nat) (r : Nat) (Ns : Mine.MM → PySem.Obj) (Ac : Mine.MM → PySem.Obj) (pm : Nat) (pf : Nat) (wd : PySem.Str) (m tk : Nat) (zs : Nat → Ov) (n₀ t₀ : Nat) : Nat → Nat := fun j₀ => match j₀ with | _ => 0
noncomputable def rC1FC (b₀ : Bool) (P₀ : Params) (p₀ : Program) (top : KT) : Prop := ∀ (W : Mine.NX) (it : PySem.Addr) (L : PySem.Addr) (ns : PySem.Addr) (acc : PySem.Addr) (cl : PySem.Addr) (ys : List PySem.Value) (k : Nat) (kp : Nat) (p : Nat) (tp : Nat) (c : Nat) (r : Nat) (Ns : Mine.MM → PySem.Obj) (Ac : Mine.MM → PySem.Obj) (pm : Nat) (pf : Nat) (wd : PySem.Str), Chk b₀ P₀ p₀ top 38 (rC1F top P₀ W it L ns acc cl ys k kp p tp c r Ns Ac pm pf wd) 131604399784390850690037925967212329603635519942160695724548588779728713417094618905624957537402141043199015240519909633 (rC1FR top P₀ W it L ns acc cl ys k kp p tp c r Ns Ac pm pf wd) [0, 1, 2, 3, 4, 5, 6, 7, 8, 9, 10, 11, 12, 13] (mkX (rC1FF W it L ns acc cl ys k kp p tp c r Ns Ac pm pf wd) (fun zs => (zs 3).m) (fun zs led => fun j₁ => match j₁ with | 0 => ob led 0 | _ => default) (fun zs => xx 0 0 0))
noncomputable def rC1TF (W : Mine.NX) (it : PySem.Addr) (L : PySem.Addr) (ns : PySem.Addr) (acc : PySem.Addr) (cl : PySem.Addr) (ys : List PySem.Value) (k : Nat) (kp : Nat) (p : Nat) (tp : Nat) (c : Nat) (r : Nat) (Ns : Mine.MM → PySem.Obj) (Ac : Mine.MM → PySem.Obj) (pm : Nat) (pf : Nat) (wd : PySem.Str) (t2 : Nat) (kv : Int) (tv : Nat) (m tk : Nat) (zs : Nat → Ov) (n₀ t₀ : Nat) : Nat → Nat := fun j₀ => match j₀ with | _ => 0
noncomputable def rC1TC (b₀ : Bool) (P₀ : Params) (p₀ : Program) (top : KT) : Prop := ∀ (W : Mine.NX) (it : PySem.Addr) (L : PySem.Addr) (ns : PySem.Addr) (acc : PySem.Addr) (cl : PySem.Addr) (ys : List PySem.Value) (k : Nat) (kp : Nat) (p : Nat) (tp : Nat) (c : Nat) (r : Nat) (Ns : Mine.MM → PySem.Obj) (Ac : Mine.MM → PySem.Obj) (pm : Nat) (pf : Nat) (wd : PySem.Str) (t2 : Nat) (kv : Int) (tv : Nat), Chk b₀ P₀ p₀ top 38 (rC1T top P₀ W it L ns acc cl ys k kp p tp c r Ns Ac pm pf wd t2 kv tv) 131604399784390850690037925967212329603635519942160695724548588779728713417094618905624957537402141043199015240519909633 (rC1TR top P₀ W it L ns acc cl ys k kp p tp c r Ns Ac pm pf wd t2 kv tv) [0, 1, 2, 3, 4, 5, 6, 7, 8, 9, 10, 11, 12, 13] (mkX (rC1TF W it L ns acc cl ys k kp p tp c r Ns Ac pm pf wd t2 kv tv) (fun zs => (zs 3).m) (fun zs led => fun j₁ => match j₁ with | 0 => ob led 0 | _ => default) (fun zs => xx 0 0 0))
noncomputable def rC1BF2 (W : Mine.NX) (it : PySem.Addr) (L : PySem.Addr) (ns : PySem.Addr) (acc : PySem.Addr) (cl : PySem.Addr) (ys : List PySem.Value) (k : Nat) (kp : Nat) (p : Nat) (tp : Nat) (c : Nat) (r : Nat) (Ns : Mine.MM → PySem.Obj) (Ac : Mine.MM → PySem.Obj) (pf : Nat) (m tk : Nat) (zs : Nat → Ov) (n₀ t₀ : Nat) : Nat → Nat := fun j₀ => match j₀ with | _ => 0
noncomputable def rC1BC2 (b₀ : Bool) (P₀ : Params) (p₀ : Program) (top : KT) : Prop := ∀ (W : Mine.NX) (it : PySem.Addr) (L : PySem.Addr) (ns : PySem.Addr) (acc : PySem.Addr) (cl : PySem.Addr) (ys : List PySem.Value) (k : Nat) (kp : Nat) (p : Nat) (tp : Nat) (c : Nat) (r : Nat) (Ns : Mine.MM → PySem.Obj) (Ac : Mine.MM → PySem.Obj) (pf : Nat), Chk2 false (fol b₀ P₀) p₀ top 15 (rC1B top P₀ W it L ns acc cl ys k kp p tp c r Ns Ac pf) 19068275356944878759820299163693519545895275725057 (rC1BR top P₀ W it L ns acc cl ys k kp p tp c r Ns Ac pf) [0, 1, 2, 3, 4, 5, 6, 7, 8, 9, 10, 11, 12, 13] (mkX (rC1BF2 W it L ns acc cl ys k kp p tp c r Ns Ac pf) (fun zs => (zs 0).m) (fun zs led => fun j₁ => match j₁ with | 0 => ob led 0 | _ => default) (fun zs => xx 0 0 0))
noncomputable def rC1BF3 (W : Mine.NX) (it : PySem.Addr) (L : PySem.Addr) (ns : PySem.Addr) (acc : PySem.Addr) (cl : PySem.Addr) (ys : List PySem.Value) (k : Nat) (kp : Nat) (p : Nat) (tp : Nat) (c : Nat) (r : Nat) (Ns : Mine.MM → PySem.Obj) (Ac : Mine.MM → PySem.Obj) (pf : Nat) (m tk : Nat) (zs : Nat → Ov) (n₀ t₀ : Nat) : Nat → Nat := fun j₀ => match j₀ with | _ => 0
noncomputable def rC1BC3 (P₀ : Params) (p₀ : Program) (top : KT) : Prop := ∀ (W : Mine.NX) (it : PySem.Addr) (L : PySem.Addr) (ns : PySem.Addr) (acc : PySem.Addr) (cl : PySem.Addr) (ys : List PySem.Value) (k : Nat) (kp : Nat) (p : Nat) (tp : Nat) (c : Nat) (r : Nat) (Ns : Mine.MM → PySem.Obj) (Ac : Mine.MM → PySem.Obj) (pf : Nat), Chk2 true P₀ p₀ top 5 (rC1B top P₀ W it L ns acc cl ys k kp p tp c r Ns Ac pf) 67744122691752575206508521303638018 (rC1BR top P₀ W it L ns acc cl ys k kp p tp c r Ns Ac pf) [0, 1, 2, 3, 4, 5, 6, 7, 8, 9, 10, 11, 12, 13] (mkX (rC1BF3 W it L ns acc cl ys k kp p tp c r Ns Ac pf) (fun zs => (zs 0).m) (fun zs led => fun j₁ => match j₁ with | 0 => ob led 0 | _ => default) (fun zs => xx 0 0 0))
noncomputable def rPuEF (W : Mine.NX) (O : Mine.FO) (it : PySem.Addr) (l : PySem.Addr) (xs : List PySem.Value) (n : Nat) (i : Nat) (t4 : Nat) (v4 : PySem.Value) (ys : List PySem.Value) (k : Nat) (m tk : Nat) (zs : Nat → Ov) (n₀ t₀ : Nat) : Nat → Nat := fun j₀ => match j₀ with | _ => 0
noncomputable def rPuEC (b₀ : Bool) (P₀ : Params) (p₀ : Program) (top : KT) : Prop := ∀ (W : Mine.NX) (O : Mine.FO) (it : PySem.Addr) (l : PySem.Addr) (xs : List PySem.Value) (n : Nat) (i : Nat) (t4 : Nat) (v4 : PySem.Value) (ys : List PySem.Value) (k : Nat), Chk b₀ P₀ p₀ top 9 (rPuE top P₀ W O it l xs n i t4 v4 ys k) 4311744769 (rPuER top P₀ W O it l xs n i t4 v4 ys k) [2, 3, 4, 5, 6, 7, 8] (mkX (rPuEF W O it l xs n i t4 v4 ys k) (fun zs => fun _ _ => t4) (fun zs led => fun j₁ => match j₁ with | 0 => ob led 2 | _ => default) (fun zs => xx 0 0 0))
noncomputable def rPuFF (W : Mine.NX) (O : Mine.FO) (it : PySem.Addr) (l : PySem.Addr) (xs : List PySem.Value) (n : Nat) (i : Nat) (s : PySem.Str) (t : Nat) (ys : List PySem.Value) (k : Nat) (fin : List PySem.Value) (kf : Nat) (lv : PySem.Value) (m tk : Nat) (zs : Nat → Ov) (n₀ t₀ : Nat) : Nat → Nat := fun j₀ => match j₀ with | _ => 0
noncomputable def rPuFC (b₀ : Bool) (P₀ : Params) (p₀ : Program) (top : KT) : Prop := ∀ (W : Mine.NX) (O : Mine.FO) (it : PySem.Addr) (l : PySem.Addr) (xs : List PySem.Value) (n : Nat) (i : Nat) (s : PySem.Str) (t : Nat) (ys : List PySem.Value) (k : Nat) (fin : List PySem.Value) (kf : Nat) (lv : PySem.Value), Chk b₀ P₀ p₀ top 40 (rPuF top P₀ W O it l xs n i s t ys k fin kf lv) 11694075024537697518951008748825534198343537632228097175284336107749135845824550404353 (rPuFR top P₀ W O it l xs n i s t ys k fin kf lv) [0, 1, 2, 3, 4, 5, 6] (mkX (rPuFF W O it l xs n i s t ys k fin kf lv) (fun zs => (zs 2).m) (fun zs led => fun j₁ => match j₁ with | 0 => ob led 0 | _ => default) (fun zs => xx 0 0 0))
noncomputable def rPuTF (W : Mine.NX) (O : Mine.FO) (it : PySem.Addr) (l : PySem.Addr) (xs : List PySem.Value) (n : Nat) (i : Nat) (s : PySem.Str) (t : Nat) (t4 : Nat) (v4 : PySem.Value) (ys : List PySem.Value) (k : Nat) (fin : List PySem.Value) (kf : Nat) (lv : PySem.Value) (m tk : Nat) (zs : Nat → Ov) (n₀ t₀ : Nat) : Nat → Nat := fun j₀ => match j₀ with | _ => 0
noncomputable def rPuTC (b₀ : Bool) (P₀ : Params) (p₀ : Program) (top : KT) : Prop := ∀ (W : Mine.NX) (O : Mine.FO) (it : PySem.Addr) (l : PySem.Addr) (xs : List PySem.Value) (n : Nat) (i : Nat) (s : PySem.Str) (t : Nat) (t4 : Nat) (v4 : PySem.Value) (ys : List PySem.Value) (k : Nat) (fin : List PySem.Value) (kf : Nat) (lv : PySem.Value), Chk b₀ P₀ p₀ top 40 (rPuT top P₀ W O it l xs n i s t t4 v4 ys k fin kf lv) 11694075024537697518951008748825534198343537632228097175284336107749135845824550404353 (rPuTR top P₀ W O it l xs n i s t t4 v4 ys k fin kf lv) [0, 1, 2, 3, 4, 5, 6] (mkX (rPuTF W O it l xs n i s t t4 v4 ys k fin kf lv) (fun zs => (zs 2).m) (fun zs led => fun j₁ => match j₁ with | 0 => ob led 0 | _ => default) (fun zs => xx 0 0 0))
noncomputable def rOnEF (W : Mine.NX) (O : Mine.FO) (it : PySem.Addr) (sn : PySem.Addr) (tt : List PySem.Value) (nt : Nat) (kx : List PySem.DictEntry) (nn : Nat) (ss : List PySem.Value) (q : Nat) (xs : List PySem.Value) (k : Nat) (c : Nat) (m tk : Nat) (zs : Nat → Ov) (n₀ t₀ : Nat) : Nat → Nat := fun j₀ => match j₀ with | _ => 0
noncomputable def rOnEC (b₀ : Bool) (P₀ : Params) (p₀ : Program) (top : KT) : Prop := ∀ (W : Mine.NX) (O : Mine.FO) (it : PySem.Addr) (sn : PySem.Addr) (tt : List PySem.Value) (nt : Nat) (kx : List PySem.DictEntry) (nn : Nat) (ss : List PySem.Value) (q : Nat) (xs : List PySem.Value) (k : Nat) (c : Nat), Chk b₀ P₀ p₀ top 19 (rOnE top P₀ W O it sn tt nt kx nn ss q xs k c) 72340172821299201 (rOnER top P₀ W O it sn tt nt kx nn ss q xs k c) [2, 3, 4, 5, 6, 7, 8, 9] (mkX (rOnEF W O it sn tt nt kx nn ss q xs k c) (fun zs => fun _ _ => 0) (fun zs led => fun j₁ => match j₁ with | 0 => ob led 2 | _ => default) (fun zs => xx 0 0 0))
noncomputable def rOnT0F (X : Mine.OT) (m tk : Nat) (zs : Nat → Ov) (n₀ t₀ : Nat) : Nat → Nat := fun j₀ => match j₀ with | _ => 0
noncomputable def rOnT0C (b₀ : Bool) (P₀ : Params) (p₀ : Program) (top : KT) : Prop := ∀ (X : Mine.OT), Chk b₀ P₀ p₀ top 190 (rOnT0 top P₀ X) 7751990080974907812762628099225552590055891414445195861468635195132577414161434613534087720115086238371458780079716361064094103029957530703960926015376227532442776339056035375849031034153868973121446769446017575641564804047594912329099891157705077153863915944117968034461677760548061417628949185636811669761 (rOnT0R top P₀ X) [4, 5, 6, 7, 8, 9, 10, 11] (mkX (rOnT0F X) (fun zs => (zs 6).m) (fun zs led => fun j₁ => match j₁ with | 0 => ob led 4 | _ => default) (fun zs => xx 0 0 0))
noncomputable def rOnT1F (X : Mine.OT) (m tk : Nat) (zs : Nat → Ov) (n₀ t₀ : Nat) : Nat → Nat := fun j₀ => match j₀ with | _ => 0
noncomputable def rOnT1C (b₀ : Bool) (P₀ : Params) (p₀ : Program) (top : KT) : Prop := ∀ (X : Mine.OT), Chk b₀ P₀ p₀ top 288 (rOnT1 top P₀ X) 29255719283188599785918550224561535279723637016482760327002538749096788967893599909404057221314645551139083051578660556152418744451990389088073138213742211070428032538778926112184053656901689814882167243708408773109117448138995947005462344472872052190081339302343765008592979042941817335898093766841030429989829190366967971245132772069064424048915846985771314516873393712431130813084984749369418285302932582441662150073982451637320478672811424158226487948135586257288160084225 (rOnT1R top P₀ X) [4, 5, 6, 7, 8, 9, 10, 11] (mkX (rOnT1F X) (fun zs => (zs 12).m) (fun zs led => fun j₁ => match j₁ with | 0 => ob led 4 | _ => default) (fun zs => xx 0 0 0))
noncomputable def rOnT2F (X : Mine.OT) (m tk : Nat) (zs : Nat → Ov) (n₀ t₀ : Nat) : Nat → Nat := fun j₀ => match j₀ with | _ => 0
noncomputable def rOnT2C (b₀ : Bool) (P₀ : Params) (p₀ : Program) (top : KT) : Prop := ∀ (X : Mine.OT), Chk b₀ P₀ p₀ top 263 (rOnT2 top P₀ X) 78193654068470235724736381303703678792099554789338454492655085887197454622770719126099400426610652286829808015088102492770189917538936598138428058228438822716983548476851371359157261172238676666055791582540168877124579386705757796455450992166032911839708580837798676041644702085513193398753991820732423526689240212244963575640818539183745545076858593926105744334732035979306182516165417779495526571276966963639174351791587585 (rOnT2R top P₀ X) [4, 5, 6, 7, 8, 9, 10, 11] (mkX (rOnT2F X) (fun zs => (zs 11).m) (fun zs led => fun j₁ => match j₁ with | 0 => ob led 4 | _ => default) (fun zs => xx 0 0 0))
noncomputable def rOnT3F (X : Mine.OT) (m tk : Nat) (zs : Nat → Ov) (n₀ t₀ : Nat) : Nat → Nat := fun j₀ => match j₀ with | _ => 0
noncomputable def rOnT3C (b₀ : Bool) (P₀ : Params) (p₀ : Program) (top : KT) : Prop := ∀ (X : Mine.OT), Chk b₀ P₀ p₀ top 261 (rOnT3 top P₀ X) 78193654068470235724733387304240053810322151160207542530055107243269088117408906832678555327458781111948211768540698782676452108284858829939589866031154271564911197175663429168068679246260032887382738688177276204831778005437834598254974246279589946503487521415722884257854090742127624591037610708328292179226704407186243307927027689284143626297145553851352228897507836033737310800311621119381816549753652479163029922198323457 (rOnT3R top P₀ X) [4, 5, 6, 7, 8, 9, 10, 11] (mkX (rOnT3F X) (fun zs => (zs 10).m) (fun zs led => fun j₁ => match j₁ with | 0 => ob led 4 | _ => default) (fun zs => xx 0 0 0))
noncomputable def rOnT4F (X : Mine.OT) (m tk : Nat) (zs : Nat → Ov) (n₀ t₀ : Nat) : Nat → Nat := fun j₀ => match j₀ with | _ => 0
noncomputable def rOnT4C (b₀ : Bool) (P₀ : Params) (p₀ : Program) (top : KT) : Prop := ∀ (X : Mine.OT), Chk b₀ P₀ p₀ top 359 (rOnT4 top P₀ X) 295099912313900713087696883719423417147759847495870012773441468518005297699108160284334814501910944367610510145671771222942724017910010261450964121196417881892504526185338878759311558072269915970190062063723205473619610291240208678547260599927491951487506599672564261936930949357435703834467706956833022716174368258269954068504942380640963851510843213439336175925177281230669786844494810570980702906560167064595818819996550245280127815194144660252563511310907422599083700989007003112318843179117951299663808649441603981485458630702539433987004195128075153186265911027560584724811250720198099201 (rOnT4R top P₀ X) [4, 5, 6, 7, 8, 9, 10, 11] (mkX (rOnT4F X) (fun zs => (zs 16).m) (fun zs led => fun j₁ => match j₁ with | 0 => ob led 4 | _ => default) (fun zs => xx 0 0 0))
noncomputable def rOnT5F (X : Mine.OT) (m tk : Nat) (zs : Nat → Ov) (n₀ t₀ : Nat) : Nat → Nat := fun j₀ => match j₀ with | _ => 0
noncomputable def rOnT5C (b₀ : Bool) (P₀ : Params) (p₀ : Program) (top : KT) : Prop := ∀ (X : Mine.OT), Chk b₀ P₀ p₀ top 334 (rOnT5 top P₀ X) 788732631583895195476427096138537010108475615199874829940548931182442043993158968901598986410039472877600328680244176601599371991771958371764971814123973412154250779433871770060039487092478057878430046307290929083095196283976862733841739206445778966638640139653901787904725557502862421649437015433139060221036725269085418455597614103371466144743776997639777325502276676648032808128874518273105234375831542515224943372564934086351823004996905541638815328165656364037827254753639962173519518469848867601945053654141085902527984395304412332949761 (rOnT5R top P₀ X) [4, 5, 6, 7, 8, 9, 10, 11] (mkX (rOnT5F X) (fun zs => (zs 15).m) (fun zs led => fun j₁ => match j₁ with | 0 => ob led 4 | _ => default) (fun zs => xx 0 0 0))
noncomputable def rOnF0F (X : Mine.OT) (m tk : Nat) (zs : Nat → Ov) (n₀ t₀ : Nat) : Nat → Nat := fun j₀ => match j₀ with | _ => 0
noncomputable def rOnF0C (b₀ : Bool) (P₀ : Params) (p₀ : Program) (top : KT) : Prop := ∀ (X : Mine.OT), Chk b₀ P₀ p₀ top 190 (rOnF0 top P₀ X) 7751990080974907812762628099225552590055891414445195861468635195132577414161434613534087720115086238371458780079716361064094103029957530703960926015376227532442776339056035375849031034153868973121446769446017575641564804047594912329099891157705077153863915944117968034461677760548061417628949185636811669761 (rOnF0R top P₀ X) [4, 5, 6, 7, 8, 9, 10, 11] (mkX (rOnF0F X) (fun zs => (zs 6).m) (fun zs led => fun j₁ => match j₁ with | 0 => ob led 4 | _ => default) (fun zs => xx 0 0 0))
noncomputable def rOnF1F (X : Mine.OT) (m tk : Nat) (zs : Nat → Ov) (n₀ t₀ : Nat) : Nat → Nat := fun j₀ => match j₀ with | _ => 0
noncomputable def rOnF1C (b₀ : Bool) (P₀ : Params) (p₀ : Program) (top : KT) : Prop := ∀ (X : Mine.OT), Chk b₀ P₀ p₀ top 288 (rOnF1 top P₀ X) 29255719283188599785918550224561535279723637016482760327002538749096788967893599909404057221314645551139083051578660556152418744451990389088073138213742211070428032538778926112184053656901689814882167243708408773109117448138995947005462344472872052190081339302343765008592979042941817335898093766841030429989829190366967971245132772069064424048915846985771314516873393712431130813084984749369418285302932582441662150073982451637320478672811424158226487948135586257288160084225 (rOnF1R top P₀ X) [4, 5, 6, 7, 8, 9, 10, 11] (mkX (rOnF1F X) (fun zs => (zs 12).m) (fun zs led => fun j₁ => match j₁ with | 0 => ob led 4 | _ => default) (fun zs => xx 0 0 0))
noncomputable def rOneF (X : Mine.OW) (m tk : Nat) (zs : Nat → Ov) (n₀ t₀ : Nat) : Nat → Nat := fun j₀ => match j₀ with | 0 => (zs 11).n (0) | 1 => (zs 5).n (0) | 2 => (zs 7).m (1) (6) | 3 => (zs 10).n (2) | 4 => (zs 11).n (2) | 5 => 0 | 6 => 0 | 7 => (zs 0).n (9) | _ => 0
noncomputable def rOneC (b₀ : Bool) (P₀ : Params) (p₀ : Program) (top : KT) : Prop := ∀ (X : Mine.OW), Chk b₀ P₀ p₀ top 310 (rOne top P₀ X) 1021509938241180715062978562054654866250958202195920215256090468296721316758051651423053365179349890903435486056387043526937283519979715702107607557534566375891203550190204943093438603042949269121194501677295558151987412647179676202308463434489240295479656236484312395314090183623114151921928692588298762326606475617249116654622963234437812417464874613564827917049498013644034799347958607369170302206067149095546805789000012592056770988461405964795672711122626296993077541585541254876419440681654992146399232 (rOneR top P₀ X) [31, 32, 0, 11, 3, 1] (mkX (rOneF X) (fun zs => (zs 7).m) (fun zs led => fun _ => default) (fun zs => xx 0 0 0))
noncomputable def rTwEF (O : Mine.FT) (R : Mine.LX) (Z : Mine.LX) (it : PySem.Addr) (sn : PySem.Addr) (tt : List PySem.Value) (nt : Nat) (st : Int) (ts : Nat) (kx : List PySem.DictEntry) (nn : Nat) (ss : List PySem.Value) (q : Nat) (rv : Mine.LV) (lv : Mine.LV) (c : Nat) (m tk : Nat) (zs : Nat → Ov) (n₀ t₀ : Nat) : Nat → Nat := fun j₀ => match j₀ with | _ => 0
noncomputable def rTwEC (b₀ : Bool) (P₀ : Params) (p₀ : Program) (top : KT) : Prop := ∀ (O : Mine.FT) (R : Mine.LX) (Z : Mine.LX) (it : PySem.Addr) (sn : PySem.Addr) (tt : List PySem.Value) (nt : Nat) (st : Int) (ts : Nat) (kx : List PySem.DictEntry) (nn : Nat) (ss : List PySem.Value) (q : Nat) (rv : Mine.LV) (lv : Mine.LV) (c : Nat), Chk b₀ P₀ p₀ top 19 (rTwE top P₀ O R Z it sn tt nt st ts kx nn ss q rv lv c) 72340172821299201 (rTwER top P₀ O R Z it sn tt nt st ts kx nn ss q rv lv c) [2, 3, 4, 5, 6, 7, 8, 9, 10, 11, 12, 13, 14, 15, 16, 17] (mkX (rTwEF O R Z it sn tt nt st ts kx nn ss q rv lv c) (fun zs => fun _ _ => 0) (fun zs led => fun j₁ => match j₁ with | 0 => ob led 2 | _ => default) (fun zs => xx 0 0 0))
noncomputable def rTwT0F (X : Mine.TT) (m tk : Nat) (zs : Nat → Ov) (n₀ t₀ : Nat) : Nat → Nat := fun j₀ => match j₀ with | _ => 0
noncomputable def rTwT0C (b₀ : Bool) (P₀ : Params) (p₀ : Program) (top : KT) : Prop := ∀ (X : Mine.TT), Chk b₀ P₀ p₀ top 193 (rTwT0 top P₀ X) 76453729288830637972081159050928420062112019526406543438199179829573128461371529751816564239770910243661634035437154296066228291606601905188042504213924624880110883519522800322011091470683389423036916801054970469944288661168476141458806381220926969794882310062131859089023524708124979520067792029269186275557520854824618166550766971141355429373178544385 (rTwT0R top P₀ X) [4, 5, 6, 7, 8, 9, 10, 11, 12, 13, 14, 15, 16, 17, 18, 19] (mkX (rTwT0F X) (fun zs => (zs 6).m) (fun zs led => fun j₁ => match j₁ with | 0 => ob led 4 | _ => default) (fun zs => xx 0 0 0))
noncomputable def rTwT1F (X : Mine.TT) (m tk : Nat) (zs : Nat → Ov) (n₀ t₀ : Nat) : Nat → Nat := fun j₀ => match j₀ with | _ => 0
noncomputable def rTwT1C (b₀ : Bool) (P₀ : Params) (p₀ : Program) (top : KT) : Prop := ∀ (X : Mine.TT), Chk b₀ P₀ p₀ top 253 (rTwT1 top P₀ X) 12938289685159767405526807437846387972522384099290086308738867638935367264386493673718914481171289825250901974249940165114586555370722209476179181098490741994737911440698493139587678322447684860591352338722675158203595385102572188715012719058582016164018589929879116788871466970481006318743082083785259455738597811718846778345287571420788793983834067532202204658027699062416348187945316355907596170512055902488457557207367958397320603329353029471603890072457786968359832372904193 (rTwT1R top P₀ X) [4, 5, 6, 7, 8, 9, 10, 11, 12, 13, 14, 15, 16, 17, 18, 19] (mkX (rTwT1F X) (fun zs => (zs 8).m) (fun zs led => fun j₁ => match j₁ with | 0 => ob led 4 | _ => default) (fun zs => xx 0 0 0))
noncomputable def rTwT2F (X : Mine.TT) (m tk : Nat) (zs : Nat → Ov) (n₀ t₀ : Nat) : Nat → Nat := fun j₀ => match j₀ with | _ => 0
noncomputable def rTwT2C (b₀ : Bool) (P₀ : Params) (p₀ : Program) (top : KT) : Prop := ∀ (X : Mine.TT), Chk b₀ P₀ p₀ top 252 (rTwT2 top P₀ X) 50540194082655341427839091554087453017665562887851899643511201727449624829271773011215978148532844127218300364720833572383158970417196720233115846667545123343603892586691520764158666927503049850195058138053130990060404242307130768632618560988862264287879879967599054362509820822067970490885382152441166452442151362179376649416102073742328239828110677539868545971160156778729266761400057633044816900951710944640736796561853641539662634223762318322285650884207497247679796216065 (rTwT2R top P₀ X) [4, 5, 6, 7, 8, 9, 10, 11, 12, 13, 14, 15, 16, 17, 18, 19] (mkX (rTwT2F X) (fun zs => (zs 8).m) (fun zs led => fun j₁ => match j₁ with | 0 => ob led 4 | _ => default) (fun zs => xx 0 0 0))
noncomputable def rTwT3F (X : Mine.TT) (m tk : Nat) (zs : Nat → Ov) (n₀ t₀ : Nat) : Nat → Nat := fun j₀ => match j₀ with | _ => 0
noncomputable def rTwT3C (b₀ : Bool) (P₀ : Params) (p₀ : Program) (top : KT) : Prop := ∀ (X : Mine.TT), Chk b₀ P₀ p₀ top 192 (rTwT3 top P₀ X) 298647380034494679578442027542689140867625076275025560305465546209270033052232538093033454061605118139303257950926383969008704264088288692140791032085643065937933138748135938757855826057356989933737956254120978398219877582689359927573462426644245975761259023680202570681160359844280891271881830419301119785123124042317285289199461039343518280291713281 (rTwT3R top P₀ X) [4, 5, 6, 7, 8, 9, 10, 11, 12, 13, 14, 15, 16, 17, 18, 19] (mkX (rTwT3F X) (fun zs => (zs 6).m) (fun zs led => fun j₁ => match j₁ with | 0 => ob led 4 | _ => default) (fun zs => xx 0 0 0))
noncomputable def rTwT4F (X : Mine.TT) (m tk : Nat) (zs : Nat → Ov) (n₀ t₀ : Nat) : Nat → Nat := fun j₀ => match j₀ with | _ => 0
noncomputable def rTwT4C (b₀ : Bool) (P₀ : Params) (p₀ : Program) (top : KT) : Prop := ∀ (X : Mine.TT), Chk b₀ P₀ p₀ top 252 (rTwT4 top P₀ X) 50540194082655341427839091554087453017665562887851899643511201714591278376509740912964509692075350879886335836913828769978853731916883630766324926165979460916944966565228488826514368447061268986684970073135449836732794473056922612168018433822586000640697616913590299956529167853441430932590164389786169748978897702026745227911279575862456226499351826297664861945420699462563860109161392015260162203279171536785558949859086055850429833313488429994028806123096552943789897941249 (rTwT4R top P₀ X) [4, 5, 6, 7, 8, 9, 10, 11, 12, 13, 14, 15, 16, 17, 18, 19] (mkX (rTwT4F X) (fun zs => (zs 8).m) (fun zs led => fun j₁ => match j₁ with | 0 => ob led 4 | _ => default) (fun zs => xx 0 0 0))
noncomputable def rTwT5F (X : Mine.TT) (m tk : Nat) (zs : Nat → Ov) (n₀ t₀ : Nat) : Nat → Nat := fun j₀ => match j₀ with | _ => 0
noncomputable def rTwT5C (b₀ : Bool) (P₀ : Params) (p₀ : Program) (top : KT) : Prop := ∀ (X : Mine.TT), Chk b₀ P₀ p₀ top 251 (rTwT5 top P₀ X) 197422633135372427452496451383154113350256105030671482982465631747850096989342863325062414642706422371946485799690756142121714728192174688410608776045098138060952705416763752984994792685558788477324445851770042929923454071512229564971166253862743219874530781123433806103553987586203009730021024032973306454852153758513190036781648725555969686828557334140111507699844362416911198286718975125195978235795788567524495129374709148160533723139730176522538851324758134758051938561 (rTwT5R top P₀ X) [4, 5, 6, 7, 8, 9, 10, 11, 12, 13, 14, 15, 16, 17, 18, 19] (mkX (rTwT5F X) (fun zs => (zs 8).m) (fun zs led => fun j₁ => match j₁ with | 0 => ob led 4 | _ => default) (fun zs => xx 0 0 0))
noncomputable def rTwF0F (X : Mine.TT) (m tk : Nat) (zs : Nat → Ov) (n₀ t₀ : Nat) : Nat → Nat := fun j₀ => match j₀ with | _ => 0
noncomputable def rTwF0C (b₀ : Bool) (P₀ : Params) (p₀ : Program) (top : KT) : Prop := ∀ (X : Mine.TT), Chk b₀ P₀ p₀ top 193 (rTwF0 top P₀ X) 76453729288830637972081159050928420062112019526406543438199179829573128461371529751816564239770910243661634035437154296066228291606601905188042504213924624880110883519522800322011091470683389423036916801054970469944288661168476141458806381220926969794882310062131859089023524708124979520067792029269186275557520854824618166550766971141355429373178544385 (rTwF0R top P₀ X) [4, 5, 6, 7, 8, 9, 10, 11, 12, 13, 14, 15, 16, 17, 18, 19] (mkX (rTwF0F X) (fun zs => (zs 6).m) (fun zs led => fun j₁ => match j₁ with | 0 => ob led 4 | _ => default) (fun zs => xx 0 0 0))
noncomputable def rTwF1F (X : Mine.TT) (m tk : Nat) (zs : Nat → Ov) (n₀ t₀ : Nat) : Nat → Nat := fun j₀ => match j₀ with | _ => 0
noncomputable def rTwF1C (b₀ : Bool) (P₀ : Params) (p₀ : Program) (top : KT) : Prop := ∀ (X : Mine.TT), Chk b₀ P₀ p₀ top 252 (rTwF1 top P₀ X) 50540194082655341427839091554087453017665562887851899643511201727449624829271773011215978148532844127218300364720833572383158970417196720233115846667545123343603892586691520764158666927503049850195058138053130990060404242307130768632618560988862264287879879967599054362509820822067970490885382152441166452442151362179376649416102073742328239828110677539868545971160156778729266761400057633044816900951710944640736796561853641539662634223762318322285650884207497247679796216065 (rTwF1R top P₀ X) [4, 5, 6, 7, 8, 9, 10, 11, 12, 13, 14, 15, 16, 17, 18, 19] (mkX (rTwF1F X) (fun zs => (zs 8).m) (fun zs led => fun j₁ => match j₁ with | 0 => ob led 4 | _ => default) (fun zs => xx 0 0 0))
noncomputable def rTwoF (X : Mine.OU) (m tk : Nat) (zs : Nat → Ov) (n₀ t₀ : Nat) : Nat → Nat := fun j₀ => match j₀ with | 0 => (zs 6).n (0) | 1 => (zs 1).n (0) + 4 | 2 => (zs 3).m (1) (0) | 3 => (zs 5).n (2) | 4 => (zs 6).n (2) | _ => 0
noncomputable def rTwoC (b₀ : Bool) (P₀ : Params) (p₀ : Program) (top : KT) : Prop := ∀ (X : Mine.OU), Chk b₀ P₀ p₀ top 233 (rTwo top P₀ X) 643175128207380565229669637654399759341490496760306965062486598660735518839391116520290037619347925207898903379835204930402584820202918765070382839543450510988423403144595024537791972133334895666852887138409572841491342333319179776329997990706615504980648490870414885587505671896953667597028847011462492315033549269708340585674172578430298697847690417047320163564768240209250358256691984788277493760 (rTwoR top P₀ X) [29, 30, 0, 11, 2, 1] (mkX (rTwoF X) (fun zs => fun i => match i with | 0 => (zs 3).m 0 | 1 => (zs 3).m 1 | 2 => (zs 4).m 0 | _ => (zs 6).m 0) (fun zs led => fun j₁ => match j₁ with | 0 => ob led 30 | _ => default) (fun zs => xx 0 0 0))
noncomputable def rNxBF (X : Mine.LX) (v : Mine.LV) (v1 : Mine.Ov → Mine.LV) (L : Nat) (t0 : Nat) (m tk : Nat) (zs : Nat → Ov) (n₀ t₀ : Nat) : Nat → Nat := fun j₀ => match j₀ with | 0 => (zs 0).n (0) + 1 | 1 => (zs 0).n (0) + 2 | 2 => (zs 0).n (1) | _ => 0
noncomputable def rNxBC (b₀ : Bool) (P₀ : Params) (p₀ : Program) (top : KT) : Prop := ∀ (X : Mine.LX) (v : Mine.LV) (v1 : Mine.Ov → Mine.LV) (L : Nat) (t0 : Nat), ChkT (fol b₀ P₀) p₀ top 103 (rNxB top P₀ X v v1 L t0) (rNxBT top P₀ X v v1 L t0) 29484081450810010249655521975874243458909931672206952490612268802266609417074593335125679215248188726608068067920544954391742712265791492416154545119506508351046418945 (rNxBR top P₀ X v v1 L t0) [3, 4, 5, 6, 7, 8, 9, 1, 0] (mkX (rNxBF X v v1 L t0) (fun zs => fun _ _ => 0) (fun zs led => fun j₁ => match j₁ with | 0 => ob led 3 | 1 => ob led 4 | 2 => ob led 5 | 3 => ob led 6 | 4 => ob led 7 | 5 => ob led 8 | 6 => ob led 9 | _ => default) (fun zs => xx 0 0 0))
noncomputable def rLsF (X : Mine.LX) (v : Mine.LV) (D : (Nat → Nat) → List PySem.Value) (n : Nat) (E2 : PySem.Env) (E1 : PySem.Env) (L2 : PySem.Addr) (L1 : PySem.Addr) (F2 : PySem.Obj) (F1 : PySem.Obj) (m tk : Nat) (zs : Nat → Ov) (n₀ t₀ : Nat) : Nat → Nat := fun j₀ => match j₀ with | 0 => m + 829 | _ => 0
noncomputable def rLsC (b₀ : Bool) (P₀ : Params) (p₀ : Program) (top : KT) : Prop := ∀ (X : Mine.LX) (v : Mine.LV) (D : (Nat → Nat) → List PySem.Value) (n : Nat) (E2 : PySem.Env) (E1 : PySem.Env) (L2 : PySem.Addr) (L1 : PySem.Addr) (F2 : PySem.Obj) (F1 : PySem.Obj), Chk b₀ P₀ p₀ top 15 (rLs X v D n E2 E1 L2 L1 F2 F1) 2731594786849044873702118305966048935936 (rLsR X v D n E2 E1 L2 L1 F2 F1) [1, 2, 3, 4, 5, 6, 7, 8, 0] (mkX (rLsF X v D n E2 E1 L2 L1 F2 F1) (fun zs => (zs 1).m) (fun zs led => fun j₁ => match j₁ with | 0 => ob led 1 | 1 => ob led 2 | 2 => ob led 3 | 3 => ob led 4 | 4 => ob led 5 | 5 => ob led 6 | 6 => ob led 7 | 7 => ob led 8 | _ => default) (fun zs => xx 0 0 0))
noncomputable def rLxEF (X : Mine.LX) (v : Mine.LV) (l : PySem.Addr) (ys : List PySem.Value) (k : Nat) (E2 : PySem.Env) (E1 : PySem.Env) (L2 : PySem.Addr) (L1 : PySem.Addr) (F2 : PySem.Obj) (F1 : PySem.Obj) (m tk : Nat) (zs : Nat → Ov) (n₀ t₀ : Nat) : Nat → Nat := fun j₀ => match j₀ with | _ => 0
noncomputable def rLxEC (b₀ : Bool) (P₀ : Params) (p₀ : Program) (top : KT) : Prop := ∀ (X : Mine.LX) (v : Mine.LV) (l : PySem.Addr) (ys : List PySem.Value) (k : Nat) (E2 : PySem.Env) (E1 : PySem.Env) (L2 : PySem.Addr) (L1 : PySem.Addr) (F2 : PySem.Obj) (F1 : PySem.Obj), Chk b₀ P₀ p₀ top 19 (rLxE top P₀ X v l ys k E2 E1 L2 L1 F2 F1) 1513061572064268412926318997761215754294268002306 (rLxER top P₀ X v l ys k E2 E1 L2 L1 F2 F1) [2, 3, 4, 5, 6, 7, 8, 9, 10] (mkX (rLxEF X v l ys k E2 E1 L2 L1 F2 F1) (fun zs => fun _ _ => 0) (fun zs led => fun j₁ => match j₁ with | 0 => ob led 3 | 1 => ob led 4 | 2 => ob led 5 | 3 => ob led 6 | 4 => ob led 7 | 5 => ob led 8 | 6 => ob led 9 | 7 => ob led 10 | _ => default) (fun zs => xx 0 0 0))
noncomputable def rLxBF (X : Mine.LX) (v : Mine.LV) (l : PySem.Addr) (D : (Nat → Nat) → List PySem.Value) (n : Nat) (E2 : PySem.Env) (E1 : PySem.Env) (L2 : PySem.Addr) (L1 : PySem.Addr) (F2 : PySem.Obj) (F1 : PySem.Obj) (m tk : Nat) (zs : Nat → Ov) (n₀ t₀ : Nat) : Nat → Nat := fun j₀ => match j₀ with | _ => 0
noncomputable def rLxBC (b₀ : Bool) (P₀ : Params) (p₀ : Program) (top : KT) : Prop := ∀ (X : Mine.LX) (v : Mine.LV) (l : PySem.Addr) (D : (Nat → Nat) → List PySem.Value) (n : Nat) (E2 : PySem.Env) (E1 : PySem.Env) (L2 : PySem.Addr) (L1 : PySem.Addr) (F2 : PySem.Obj) (F1 : PySem.Obj), ChkT (fol b₀ P₀) p₀ top 48 (rLxB X v l D n E2 E1 L2 L1 F2 F1) (rLxBT X v l D n E2 E1 L2 L1 F2 F1) 82853620682555531330699309822507413176015951975410981320677183343076399905728237818623548468832607087362562 (rLxBR X v l D n E2 E1 L2 L1 F2 F1) [1, 2, 3, 4, 5, 6, 7, 8, 9] (mkX (rLxBF X v l D n E2 E1 L2 L1 F2 F1) (fun zs => (zs 0).m) (fun zs led => fun j₁ => match j₁ with | 0 => ob led 2 | 1 => ob led 3 | 2 => ob led 4 | 3 => ob led 5 | 4 => ob led 6 | 5 => ob led 7 | 6 => ob led 8 | 7 => ob led 9 | _ => default) (fun zs => xx 0 0 0))
noncomputable def rPlT0F (X : Mine.PT) (m tk : Nat) (zs : Nat → Ov) (n₀ t₀ : Nat) : Nat → Nat := fun j₀ => match j₀ with | 0 => (zs 22).n (2) | _ => 0
noncomputable def rPlT0C (b₀ : Bool) (P₀ : Params) (p₀ : Program) (top : KT) : Prop := ∀ (X : Mine.PT), Chk b₀ P₀ p₀ top 186 (rPlT0 top P₀ X) 286519834627134780148931602530055381232295288227594738795708386206430123169142386154542297134977148788871363464928174200124210373565590020264598807768329945337784068570661854065566190838221902096083838547050300046520382523714559911521157377 (rPlT0R top P₀ X) [8, 9, 10, 11, 12, 0] (mkX (rPlT0F X) (fun zs => (zs 22).m) (fun zs led => fun j₁ => match j₁ with | 0 => ob led 8 | _ => default) (fun zs => xx 0 0 0))
noncomputable def rPlU0F (X : Mine.PT) (m tk : Nat) (zs : Nat → Ov) (n₀ t₀ : Nat) : Nat → Nat := fun j₀ => match j₀ with | 0 => (zs 15).n (2) | _ => 0
noncomputable def rPlU0C (b₀ : Bool) (P₀ : Params) (p₀ : Program) (top : KT) : Prop := ∀ (X : Mine.PT), Chk b₀ P₀ p₀ top 202 (rPlU0 top P₀ X) 450704639925845743158370535515272715984702412606014333033321947062671331250405555724138811421154803711784258119902381853925485759294382480432283501553062124631555554028803198663416636705961893651099635202196421567338354489931845124376261531009281 (rPlU0R top P₀ X) [9, 10, 11, 12, 13, 2] (mkX (rPlU0F X) (fun zs => fun i j => match i with | 1 => (match j with | 0 => (zs 19).n 2 | 1 => (zs 20).n 2 | 2 => (zs 0).n 2 | 3 => (zs 11).n 2 | 4 => (zs 2).n 1 | _ => (zs 21).n 1) | _ => 0) (fun zs led => fun j₁ => match j₁ with | 0 => ob led 9 | _ => default) (fun zs => xx 0 0 0))
noncomputable def rPlT1F (X : Mine.PT) (m tk : Nat) (zs : Nat → Ov) (n₀ t₀ : Nat) : Nat → Nat := fun j₀ => match j₀ with | 0 => (zs 22).n (2) | _ => 0
noncomputable def rPlT1C (b₀ : Bool) (P₀ : Params) (p₀ : Program) (top : KT) : Prop := ∀ (X : Mine.PT), Chk b₀ P₀ p₀ top 191 (rPlT1 top P₀ X) 18777363882123904951840381503409709463150473840899963311117055645296152179871637577534351397521536997824542921398395535061602622475682429024405219886707595448236335532395626020285350919744831395159062686096507063441681412508282840081130523197697 (rPlT1R top P₀ X) [8, 9, 10, 11, 12, 0] (mkX (rPlT1F X) (fun zs => (zs 22).m) (fun zs led => fun j₁ => match j₁ with | 0 => ob led 8 | _ => default) (fun zs => xx 0 0 0))
noncomputable def rPlU1F (X : Mine.PT) (m tk : Nat) (zs : Nat → Ov) (n₀ t₀ : Nat) : Nat → Nat := fun j₀ => match j₀ with | 0 => (zs 15).n (2) | _ => 0
noncomputable def rPlU1C (b₀ : Bool) (P₀ : Params) (p₀ : Program) (top : KT) : Prop := ∀ (X : Mine.PT), Chk b₀ P₀ p₀ top 207 (rPlU1 top P₀ X) 29537379282180226623626971415528912714773456023317586945986296524210075236374206358659319655564213699730067937215167858041571316983488083925531587902253900202177775368150460976336424947566955633439285082723387760855685992773796836196564395376177578241 (rPlU1R top P₀ X) [9, 10, 11, 12, 13, 2] (mkX (rPlU1F X) (fun zs => fun i j => match i with | 1 => (match j with | 0 => (zs 19).n 2 | 1 => (zs 20).n 2 | 2 => (zs 0).n 2 | 3 => (zs 11).n 2 | 4 => (zs 2).n 1 | _ => (zs 21).n 1) | _ => 0) (fun zs led => fun j₁ => match j₁ with | 0 => ob led 9 | _ => default) (fun zs => xx 0 0 0))
noncomputable def rPlT2F (X : Mine.PT) (m tk : Nat) (zs : Nat → Ov) (n₀ t₀ : Nat) : Nat → Nat := fun j₀ => match j₀ with | 0 => (zs 23).n (2) | _ => 0
noncomputable def rPlT2C (b₀ : Bool) (P₀ : Params) (p₀ : Program) (top : KT) : Prop := ∀ (X : Mine.PT), Chk b₀ P₀ p₀ top 265 (rPlT2 top P₀ X) 17463394696570755881215828561422768799400708066777087330143342677669401346681260809919969857069201149415085826207653515816459362399310979056345178367306206849021012308071107882295834636840469054350811869570460870368855040499151953435849797654398533830335732324404650290468933679039590964077082769712051503708389060976494993712703184685887721827040854278401 (rPlT2R top P₀ X) [14, 15, 16, 17, 18, 0] (mkX (rPlT2F X) (fun zs => (zs 23).m) (fun zs led => fun j₁ => match j₁ with | 0 => ob led 14 | _ => default) (fun zs => xx 0 0 0))
noncomputable def rPlU2F (X : Mine.PT) (m tk : Nat) (zs : Nat → Ov) (n₀ t₀ : Nat) : Nat → Nat := fun j₀ => match j₀ with | 0 => (zs 22).n (2) | _ => 0
noncomputable def rPlU2C (b₀ : Bool) (P₀ : Params) (p₀ : Program) (top : KT) : Prop := ∀ (X : Mine.PT), Chk b₀ P₀ p₀ top 281 (rPlU2 top P₀ X) 18163807684139041023149567696550173056940731314541411198091093908007670499131265722324699144074595245145706456459118874186660029396443637150371261730799057636321922158501478498959684238259041390996571210245010579672427487298257172086279848381270425325048721218833460369403999938771836388053770753382904328424594548597505664465497709864047899410415151407096135937 (rPlU2R top P₀ X) [15, 16, 17, 18, 19, 6] (mkX (rPlU2F X) (fun zs => fun i j => match i with | 1 => (match j with | 0 => (zs 22).n 1 | 1 => (zs 20).n 2 | 2 => (zs 0).n 2 | 3 => (zs 11).n 2 | 4 => (zs 2).n 1 | _ => (zs 21).n 1) | _ => 0) (fun zs led => fun j₁ => match j₁ with | 0 => ob led 15 | _ => default) (fun zs => xx 0 0 0))
noncomputable def rPlT3F (X : Mine.PT) (m tk : Nat) (zs : Nat → Ov) (n₀ t₀ : Nat) : Nat → Nat := fun j₀ => match j₀ with | 0 => (zs 23).n (2) | _ => 0
noncomputable def rPlT3C (b₀ : Bool) (P₀ : Params) (p₀ : Program) (top : KT) : Prop := ∀ (X : Mine.PT), Chk b₀ P₀ p₀ top 206 (rPlT3 top P₀ X) 1599061743645618293293562227438849956720942822101734974259226027016463219098474544980668268733282351043422029915686847255769504355306554611675567728923242359616689158954532258729974484679336439391124770312279538571163256165246484318104807878863730679532765577473 (rPlT3R top P₀ X) [10, 11, 12, 13, 14, 0] (mkX (rPlT3F X) (fun zs => (zs 23).m) (fun zs led => fun j₁ => match j₁ with | 0 => ob led 10 | _ => default) (fun zs => xx 0 0 0))
noncomputable def rPlU3F (X : Mine.PT) (m tk : Nat) (zs : Nat → Ov) (n₀ t₀ : Nat) : Nat → Nat := fun j₀ => match j₀ with | 0 => (zs 16).n (2) | _ => 0
noncomputable def rPlU3C (b₀ : Bool) (P₀ : Params) (p₀ : Program) (top : KT) : Prop := ∀ (X : Mine.PT), Chk b₀ P₀ p₀ top 222 (rPlU3 top P₀ X) 2144577978512384452728383078283473365184123814838329939050919204727307855493822458889257365668627297054796342738721643435228093595046763490830162768131475491440604004439782695439458721829422704917531823536429412380895313948262290879116973219723648890978692411626094849 (rPlU3R top P₀ X) [11, 12, 13, 14, 15, 2] (mkX (rPlU3F X) (fun zs => fun i j => match i with | 1 => (match j with | 0 => (zs 20).n 2 | 1 => (zs 21).n 2 | 2 => (zs 0).n 2 | 3 => (zs 12).n 2 | 4 => (zs 2).n 1 | _ => (zs 22).n 1) | _ => 0) (fun zs led => fun j₁ => match j₁ with | 0 => ob led 11 | _ => default) (fun zs => xx 0 0 0))
noncomputable def rPlT4F (X : Mine.PT) (m tk : Nat) (zs : Nat → Ov) (n₀ t₀ : Nat) : Nat → Nat := fun j₀ => match j₀ with | 0 => (zs 23).n (2) | _ => 0
noncomputable def rPlT4C (b₀ : Bool) (P₀ : Params) (p₀ : Program) (top : KT) : Prop := ∀ (X : Mine.PT), Chk b₀ P₀ p₀ top 211 (rPlT4 top P₀ X) 104796110431559240469286894137432470757575490727608210732303214499905516883079177991265575419262267973626736413520992905217069222022518024740330006903895310403500007478475065969842434379565796038131301986855425812998139099585777613659108847256650290789982150366068993 (rPlT4R top P₀ X) [10, 11, 12, 13, 14, 0] (mkX (rPlT4F X) (fun zs => (zs 23).m) (fun zs led => fun j₁ => match j₁ with | 0 => ob led 10 | _ => default) (fun zs => xx 0 0 0))
noncomputable def rPlU4F (X : Mine.PT) (m tk : Nat) (zs : Nat → Ov) (n₀ t₀ : Nat) : Nat → Nat := fun j₀ => match j₀ with | 0 => (zs 16).n (2) | _ => 0
noncomputable def rPlU4C (b₀ : Bool) (P₀ : Params) (p₀ : Program) (top : KT) : Prop := ∀ (X : Mine.PT), Chk b₀ P₀ p₀ top 227 (rPlU4 top P₀ X) 140547062399787627494007313418385710460706732241026729234548500251586440972226504907316582128958918097658948762755122590710791804803969285282707256732264598988750547695632355959160228508639598010278511781832477639668328493297261035237827344719967161156016562011153232822529 (rPlU4R top P₀ X) [11, 12, 13, 14, 15, 2] (mkX (rPlU4F X) (fun zs => fun i j => match i with | 1 => (match j with | 0 => (zs 20).n 2 | 1 => (zs 21).n 2 | 2 => (zs 0).n 2 | 3 => (zs 12).n 2 | 4 => (zs 2).n 1 | _ => (zs 22).n 1) | _ => 0) (fun zs led => fun j₁ => match j₁ with | 0 => ob led 11 | _ => default) (fun zs => xx 0 0 0))
noncomputable def rPlT5F (X : Mine.PT) (m tk : Nat) (zs : Nat → Ov) (n₀ t₀ : Nat) : Nat → Nat := fun j₀ => match j₀ with | 0 => (zs 24).n (2) | _ => 0
noncomputable def rPlT5C (b₀ : Bool) (P₀ : Params) (p₀ : Program) (top : KT) : Prop := ∀ (X : Mine.PT), Chk b₀ P₀ p₀ top 285 (rPlT5 top P₀ X) 92161840485792928627974775301731626776604915504431123324088762793668776815805477780696495097332780031254477107182292619765800753731079102539987620193557812094937500319370224398700993845177034827585760456354862266028829123823956723136022686064108337860346942252928441654113459081146982068069417427046177977417948841270765280913578648937562600278740581036497464856486702596751617 (rPlT5R top P₀ X) [16, 17, 18, 19, 20, 0] (mkX (rPlT5F X) (fun zs => (zs 24).m) (fun zs led => fun j₁ => match j₁ with | 0 => ob led 16 | _ => default) (fun zs => xx 0 0 0))
noncomputable def rPlU5F (X : Mine.PT) (m tk : Nat) (zs : Nat → Ov) (n₀ t₀ : Nat) : Nat → Nat := fun j₀ => match j₀ with | 0 => (zs 23).n (2) | _ => 0
noncomputable def rPlU5C (b₀ : Bool) (P₀ : Params) (p₀ : Program) (top : KT) : Prop := ∀ (X : Mine.PT), Chk b₀ P₀ p₀ top 301 (rPlU5 top P₀ X) 86413897514304418905027871148216346148111852274334287944523482211554715182533282931655673340296254944352316531432812524209718422513350085002345687714717605655769384425202362334593392564471279331041648637855547096120589999955424035954584343461182405110194717280596477268777870810245770795942562845393213584853896626440879912219133876929240696023271706467022892873167476274897604313345 (rPlU5R top P₀ X) [17, 18, 19, 20, 21, 6] (mkX (rPlU5F X) (fun zs => fun i j => match i with | 1 => (match j with | 0 => (zs 23).n 1 | 1 => (zs 21).n 2 | 2 => (zs 0).n 2 | 3 => (zs 12).n 2 | 4 => (zs 2).n 1 | _ => (zs 22).n 1) | _ => 0) (fun zs led => fun j₁ => match j₁ with | 0 => ob led 17 | _ => default) (fun zs => xx 0 0 0))
noncomputable def rPlF0F (X : Mine.PT) (m tk : Nat) (zs : Nat → Ov) (n₀ t₀ : Nat) : Nat → Nat := fun j₀ => match j₀ with | 0 => (zs 22).n (2) | _ => 0
noncomputable def rPlF0C (b₀ : Bool) (P₀ : Params) (p₀ : Program) (top : KT) : Prop := ∀ (X : Mine.PT), Chk b₀ P₀ p₀ top 186 (rPlF0 top P₀ X) 286519834627134780148931602530055381232295288227594738795708386206430123169142386154542297134977148788871363464928174200124210373565590020264598807768329945337784068570661854065566190838221902096083838547050300046520382523714559911521157377 (rPlF0R top P₀ X) [8, 9, 10, 11, 12, 0] (mkX (rPlF0F X) (fun zs => (zs 22).m) (fun zs led => fun j₁ => match j₁ with | 0 => ob led 8 | _ => default) (fun zs => xx 0 0 0))
noncomputable def rPlF1F (X : Mine.PT) (m tk : Nat) (zs : Nat → Ov) (n₀ t₀ : Nat) : Nat → Nat := fun j₀ => match j₀ with | 0 => (zs 23).n (2) | _ => 0
noncomputable def rPlF1C (b₀ : Bool) (P₀ : Params) (p₀ : Program) (top : KT) : Prop := ∀ (X : Mine.PT), Chk b₀ P₀ p₀ top 265 (rPlF1 top P₀ X) 17463394696570755881215828561422768799400708066777087330143342677669401346681260809919969857069201149415085826207653515816459362399310979056345178367306206849021012308071107882295834636840469054350811869570460870368855040499151953435849797654398533830335732324404650290468933679039590964077082769712051503708389060976494993712703184685887721827040854278401 (rPlF1R top P₀ X) [14, 15, 16, 17, 18, 0] (mkX (rPlF1F X) (fun zs => (zs 23).m) (fun zs led => fun j₁ => match j₁ with | 0 => ob led 14 | _ => default) (fun zs => xx 0 0 0))
noncomputable def rMinAF (a : Int) (ta : Nat) (tb : Nat) (m tk : Nat) (zs : Nat → Ov) (n₀ t₀ : Nat) : Nat → Nat := fun j₀ => match j₀ with | 0 => ta | _ => 0
noncomputable def rMinAC (b₀ : Bool) (P₀ : Params) (p₀ : Program) (top : KT) : Prop := ∀ (a : Int) (ta : Nat) (tb : Nat), Chk b₀ P₀ p₀ top 69 (rMinA a ta tb) 463552995691264337217051109873409490045691506916186056616160318598974713173439189961004753262999552844163809607936 (rMinAR a ta tb) [] (mkX (rMinAF a ta tb) (fun zs => fun _ _ => 0) (fun zs led => fun _ => default) (fun zs => xx 0 0 0))
noncomputable def rMinBF (a : Int) (ta : Nat) (tb : Nat) (m tk : Nat) (zs : Nat → Ov) (n₀ t₀ : Nat) : Nat → Nat := fun j₀ => match j₀ with | 0 => tb | _ => 0
noncomputable def rMinBC (b₀ : Bool) (P₀ : Params) (p₀ : Program) (top : KT) : Prop := ∀ (a : Int) (ta : Nat) (tb : Nat), Chk b₀ P₀ p₀ top 72 (rMinB a ta tb) 7777128736159411098587305353385923670938797856179088091724696136088534415914337486718679448835367933101581525459635601664 (rMinBR a ta tb) [] (mkX (rMinBF a ta tb) (fun zs => fun _ _ => 0) (fun zs led => fun _ => default) (fun zs => xx 0 0 0))
noncomputable def rPlnF (X : Mine.OP) (m tk : Nat) (zs : Nat → Ov) (n₀ t₀ : Nat) : Nat → Nat := fun j₀ => match j₀ with | 0 => (zs 3).n (0) | 1 => m + 830 | 2 => (zs 1).m (1) (1) | 3 => (zs 2).n (2) | 4 => (zs 3).n (2) | _ => 0
noncomputable def rPlnC (b₀ : Bool) (P₀ : Params) (p₀ : Program) (top : KT) : Prop := ∀ (X : Mine.OP), Chk b₀ P₀ p₀ top 163 (rPln top P₀ X) 78244135974126394774679496958679007918530538712419391116239142288444290686106387759369733088738051362279313304927430703214175891701252651808382571826241396830841749308721812251579920885705347972278073010142631422083475334735346741580726272 (rPlnR top P₀ X) [14, 15, 0, 12, 3, 1] (mkX (rPlnF X) (fun zs => (zs 1).m) (fun zs led => fun _ => default) (fun zs => xx 0 0 0))
noncomputable def rRep0F (wt : Nat) (m tk : Nat) (zs : Nat → Ov) (n₀ t₀ : Nat) : Nat → Nat := fun j₀ => match j₀ with | 0 => tk + 2 | _ => 0
noncomputable def rRep0C (b₀ : Bool) (P₀ : Params) (p₀ : Program) (top : KT) : Prop := ∀ (wt : Nat), Chk b₀ P₀ p₀ top 49 (rRep0 wt) 22388199096057300112770604270462594191458304 (rRep0R wt) [] (mkX (rRep0F wt) (fun zs => fun _ _ => 0) (fun zs led => fun _ => default) (fun zs => xx 0 0 0))
noncomputable def rRep1F (wt : Nat) (m tk : Nat) (zs : Nat → Ov) (n₀ t₀ : Nat) : Nat → Nat := fun j₀ => match j₀ with | 0 => tk + 2 | _ => 0
noncomputable def rRep1C (b₀ : Bool) (P₀ : Params) (p₀ : Program) (top : KT) : Prop := ∀ (wt : Nat), Chk b₀ P₀ p₀ top 49 (rRep1 wt) 22388199096057300112770604270462594191458304 (rRep1R wt) [] (mkX (rRep1F wt) (fun zs => fun _ _ => 0) (fun zs led => fun _ => default) (fun zs => xx 0 0 0))
noncomputable def rRep2F (wt : Nat) (m tk : Nat) (zs : Nat → Ov) (n₀ t₀ : Nat) : Nat → Nat := fun j₀ => match j₀ with | 0 => tk + 2 | _ => 0
noncomputable def rRep2C (b₀ : Bool) (P₀ : Params) (p₀ : Program) (top : KT) : Prop := ∀ (wt : Nat), Chk b₀ P₀ p₀ top 49 (rRep2 wt) 22388199096057300112770604270462594191458304 (rRep2R wt) [] (mkX (rRep2F wt) (fun zs => fun _ _ => 0) (fun zs led => fun _ => default) (fun zs => xx 0 0 0))
noncomputable def rRep3F (wt : Nat) (m tk : Nat) (zs : Nat → Ov) (n₀ t₀ : Nat) : Nat → Nat := fun j₀ => match j₀ with | 0 => tk + 2 | _ => 0
noncomputable def rRep3C (b₀ : Bool) (P₀ : Params) (p₀ : Program) (top : KT) : Prop := ∀ (wt : Nat), Chk b₀ P₀ p₀ top 49 (rRep3 wt) 22388199096057300112770604270462594191458304 (rRep3R wt) [] (mkX (rRep3F wt) (fun zs => fun _ _ => 0) (fun zs led => fun _ => default) (fun zs => xx 0 0 0))
noncomputable def rL0EF (X : Mine.CJ) (kx : List PySem.DictEntry) (nn : Nat) (m tk : Nat) (zs : Nat → Ov) (n₀ t₀ : Nat) : Nat → Nat := fun j₀ => match j₀ with | _ => 0
noncomputable def rL0EC (b₀ : Bool) (P₀ : Params) (p₀ : Program) (top : KT) : Prop := ∀ (X : Mine.CJ) (kx : List PySem.DictEntry) (nn : Nat), Chk b₀ P₀ p₀ top 8 (rL0E top P₀ X kx nn) 4311744769 (rL0ER top P₀ X kx nn) [2, 3, 4, 5] (mkX (rL0EF X kx nn) (fun zs => fun i k => match i with | 1 => nn | _ => 0) (fun zs led => fun j₁ => match j₁ with | 0 => ob led 2 | _ => default) (fun zs => xx 0 0 0))
noncomputable def rL0FF (X : Mine.CJ) (m tk : Nat) (zs : Nat → Ov) (n₀ t₀ : Nat) : Nat → Nat := fun j₀ => match j₀ with | _ => 0
noncomputable def rL0FC (b₀ : Bool) (P₀ : Params) (p₀ : Program) (top : KT) : Prop := ∀ (X : Mine.CJ), Chk b₀ P₀ p₀ top 20 (rL0F top P₀ X) 15617534625406337749104248433410305 (rL0FR top P₀ X) [0, 1, 2, 3] (mkX (rL0FF X) (fun zs => (zs 3).m) (fun zs led => fun j₁ => match j₁ with | 0 => ob led 0 | _ => default) (fun zs => xx 0 0 0))
noncomputable def rL0TF (X : Mine.CJ) (m tk : Nat) (zs : Nat → Ov) (n₀ t₀ : Nat) : Nat → Nat := fun j₀ => match j₀ with | _ => 0
noncomputable def rL0TC (b₀ : Bool) (P₀ : Params) (p₀ : Program) (top : KT) : Prop := ∀ (X : Mine.CJ), Chk b₀ P₀ p₀ top 20 (rL0T top P₀ X) 15617534625406337749104248433410305 (rL0TR top P₀ X) [0, 1, 2, 3] (mkX (rL0TF X) (fun zs => (zs 3).m) (fun zs led => fun j₁ => match j₁ with | 0 => ob led 0 | _ => default) (fun zs => xx 0 0 0))
noncomputable def rL0BF2 (X : Mine.CJ) (m tk : Nat) (zs : Nat → Ov) (n₀ t₀ : Nat) : Nat → Nat := fun j₀ => match j₀ with | _ => 0
noncomputable def rL0BC2 (b₀ : Bool) (P₀ : Params) (p₀ : Program) (top : KT) : Prop := ∀ (X : Mine.CJ), Chk2 false (fol b₀ P₀) p₀ top 15 (rL0B top P₀ X) 3636240639117750005924097 (rL0BR top P₀ X) [0, 1, 2, 3] (mkX (rL0BF2 X) (fun zs => (zs 0).m) (fun zs led => fun j₁ => match j₁ with | 0 => ob led 0 | _ => default) (fun zs => xx 0 0 0))
noncomputable def rL0BF3 (X : Mine.CJ) (m tk : Nat) (zs : Nat → Ov) (n₀ t₀ : Nat) : Nat → Nat := fun j₀ => match j₀ with | _ => 0
noncomputable def rL0BC3 (P₀ : Params) (p₀ : Program) (top : KT) : Prop := ∀ (X : Mine.CJ), Chk2 true P₀ p₀ top 5 (rL0B top P₀ X) 12918521858 (rL0BR top P₀ X) [0, 1, 2, 3] (mkX (rL0BF3 X) (fun zs => (zs 0).m) (fun zs led => fun j₁ => match j₁ with | 0 => ob led 0 | _ => default) (fun zs => xx 0 0 0))
noncomputable def rL1EF (X : Mine.CJ) (kx : List PySem.DictEntry) (nn : Nat) (m tk : Nat) (zs : Nat → Ov) (n₀ t₀ : Nat) : Nat → Nat := fun j₀ => match j₀ with | _ => 0
noncomputable def rL1EC (b₀ : Bool) (P₀ : Params) (p₀ : Program) (top : KT) : Prop := ∀ (X : Mine.CJ) (kx : List PySem.DictEntry) (nn : Nat), Chk b₀ P₀ p₀ top 8 (rL1E top P₀ X kx nn) 4311744769 (rL1ER top P₀ X kx nn) [2, 3, 4, 5] (mkX (rL1EF X kx nn) (fun zs => fun i k => match i with | 1 => nn | _ => 0) (fun zs led => fun j₁ => match j₁ with | 0 => ob led 2 | _ => default) (fun zs => xx 0 0 0))
noncomputable def rL1FF (X : Mine.CJ) (m tk : Nat) (zs : Nat → Ov) (n₀ t₀ : Nat) : Nat → Nat := fun j₀ => match j₀ with | _ => 0
noncomputable def rL1FC (b₀ : Bool) (P₀ : Params) (p₀ : Program) (top : KT) : Prop := ∀ (X : Mine.CJ), Chk b₀ P₀ p₀ top 20 (rL1F top P₀ X) 15617534625406337749104248433410305 (rL1FR top P₀ X) [0, 1, 2, 3] (mkX (rL1FF X) (fun zs => (zs 3).m) (fun zs led => fun j₁ => match j₁ with | 0 => ob led 0 | _ => default) (fun zs => xx 0 0 0))
noncomputable def rL1TF (X : Mine.CJ) (m tk : Nat) (zs : Nat → Ov) (n₀ t₀ : Nat) : Nat → Nat := fun j₀ => match j₀ with | _ => 0
noncomputable def rL1TC (b₀ : Bool) (P₀ : Params) (p₀ : Program) (top : KT) : Prop := ∀ (X : Mine.CJ), Chk b₀ P₀ p₀ top 20 (rL1T top P₀ X) 15617534625406337749104248433410305 (rL1TR top P₀ X) [0, 1, 2, 3] (mkX (rL1TF X) (fun zs => (zs 3).m) (fun zs led => fun j₁ => match j₁ with | 0 => ob led 0 | _ => default) (fun zs => xx 0 0 0))
noncomputable def rL1BF2 (X : Mine.CJ) (m tk : Nat) (zs : Nat → Ov) (n₀ t₀ : Nat) : Nat → Nat := fun j₀ => match j₀ with | _ => 0
noncomputable def rL1BC2 (b₀ : Bool) (P₀ : Params) (p₀ : Program) (top : KT) : Prop := ∀ (X : Mine.CJ), Chk2 false (fol b₀ P₀) p₀ top 15 (rL1B top P₀ X) 3636240639117750005924097 (rL1BR top P₀ X) [0, 1, 2, 3] (mkX (rL1BF2 X) (fun zs => (zs 0).m) (fun zs led => fun j₁ => match j₁ with | 0 => ob led 0 | _ => default) (fun zs => xx 0 0 0))
noncomputable def rL1BF3 (X : Mine.CJ) (m tk : Nat) (zs : Nat → Ov) (n₀ t₀ : Nat) : Nat → Nat := fun j₀ => match j₀ with | _ => 0
noncomputable def rL1BC3 (P₀ : Params) (p₀ : Program) (top : KT) : Prop := ∀ (X : Mine.CJ), Chk2 true P₀ p₀ top 5 (rL1B top P₀ X) 12918521858 (rL1BR top P₀ X) [0, 1, 2, 3] (mkX (rL1BF3 X) (fun zs => (zs 0).m) (fun zs led => fun j₁ => match j₁ with | 0 => ob led 0 | _ => default) (fun zs => xx 0 0 0))
noncomputable def rL2EF (X : Mine.CJ) (kx : List PySem.DictEntry) (nn : Nat) (m tk : Nat) (zs : Nat → Ov) (n₀ t₀ : Nat) : Nat → Nat := fun j₀ => match j₀ with | _ => 0
noncomputable def rL2EC (b₀ : Bool) (P₀ : Params) (p₀ : Program) (top : KT) : Prop := ∀ (X : Mine.CJ) (kx : List PySem.DictEntry) (nn : Nat), Chk b₀ P₀ p₀ top 8 (rL2E top P₀ X kx nn) 4311744769 (rL2ER top P₀ X kx nn) [2, 3, 4, 5, 6, 7] (mkX (rL2EF X kx nn) (fun zs => fun i k => match i with | 1 => nn | _ => 0) (fun zs led => fun j₁ => match j₁ with | 0 => ob led 2 | _ => default) (fun zs => xx 0 0 0))
noncomputable def rL2FF (X : Mine.CJ) (m tk : Nat) (zs : Nat → Ov) (n₀ t₀ : Nat) : Nat → Nat := fun j₀ => match j₀ with | _ => 0
noncomputable def rL2FC (b₀ : Bool) (P₀ : Params) (p₀ : Program) (top : KT) : Prop := ∀ (X : Mine.CJ), Chk b₀ P₀ p₀ top 30 (rL2F top P₀ X) 31483876484213117874196887107270748498109377978269597434113 (rL2FR top P₀ X) [0, 1, 2, 3, 4, 5] (mkX (rL2FF X) (fun zs => (zs 4).m) (fun zs led => fun j₁ => match j₁ with | 0 => ob led 0 | _ => default) (fun zs => xx 0 0 0))
noncomputable def rL2TF (X : Mine.CJ) (m tk : Nat) (zs : Nat → Ov) (n₀ t₀ : Nat) : Nat → Nat := fun j₀ => match j₀ with | _ => 0
noncomputable def rL2TC (b₀ : Bool) (P₀ : Params) (p₀ : Program) (top : KT) : Prop := ∀ (X : Mine.CJ), Chk b₀ P₀ p₀ top 30 (rL2T top P₀ X) 31483876484213117874196887107270748498109377978269597434113 (rL2TR top P₀ X) [0, 1, 2, 3, 4, 5] (mkX (rL2TF X) (fun zs => (zs 4).m) (fun zs led => fun j₁ => match j₁ with | 0 => ob led 0 | _ => default) (fun zs => xx 0 0 0))
noncomputable def rL2BF2 (X : Mine.CJ) (m tk : Nat) (zs : Nat → Ov) (n₀ t₀ : Nat) : Nat → Nat := fun j₀ => match j₀ with | _ => 0
noncomputable def rL2BC2 (b₀ : Bool) (P₀ : Params) (p₀ : Program) (top : KT) : Prop := ∀ (X : Mine.CJ), Chk2 false (fol b₀ P₀) p₀ top 15 (rL2B top P₀ X) 397382388851246185992624800001 (rL2BR top P₀ X) [0, 1, 2, 3, 4, 5] (mkX (rL2BF2 X) (fun zs => (zs 0).m) (fun zs led => fun j₁ => match j₁ with | 0 => ob led 0 | _ => default) (fun zs => xx 0 0 0))
noncomputable def rL2BF3 (X : Mine.CJ) (m tk : Nat) (zs : Nat → Ov) (n₀ t₀ : Nat) : Nat → Nat := fun j₀ => match j₀ with | _ => 0
noncomputable def rL2BC3 (P₀ : Params) (p₀ : Program) (top : KT) : Prop := ∀ (X : Mine.CJ), Chk2 true P₀ p₀ top 5 (rL2B top P₀ X) 1411785848586242 (rL2BR top P₀ X) [0, 1, 2, 3, 4, 5] (mkX (rL2BF3 X) (fun zs => (zs 0).m) (fun zs led => fun j₁ => match j₁ with | 0 => ob led 0 | _ => default) (fun zs => xx 0 0 0))
noncomputable def rL3EF (X : Mine.CJ) (kx : List PySem.DictEntry) (nn : Nat) (m tk : Nat) (zs : Nat → Ov) (n₀ t₀ : Nat) : Nat → Nat := fun j₀ => match j₀ with | _ => 0
noncomputable def rL3EC (b₀ : Bool) (P₀ : Params) (p₀ : Program) (top : KT) : Prop := ∀ (X : Mine.CJ) (kx : List PySem.DictEntry) (nn : Nat), Chk b₀ P₀ p₀ top 8 (rL3E top P₀ X kx nn) 4311744769 (rL3ER top P₀ X kx nn) [2, 3, 4, 5, 6, 7] (mkX (rL3EF X kx nn) (fun zs => fun i k => match i with | 1 => nn | _ => 0) (fun zs led => fun j₁ => match j₁ with | 0 => ob led 2 | _ => default) (fun zs => xx 0 0 0))
noncomputable def rL3FF (X : Mine.CJ) (m tk : Nat) (zs : Nat → Ov) (n₀ t₀ : Nat) : Nat → Nat := fun j₀ => match j₀ with | _ => 0
noncomputable def rL3FC (b₀ : Bool) (P₀ : Params) (p₀ : Program) (top : KT) : Prop := ∀ (X : Mine.CJ), Chk b₀ P₀ p₀ top 24 (rL3F top P₀ X) 1876585273993797175538671566976862757274606507131137 (rL3FR top P₀ X) [0, 1, 2, 3, 4, 5] (mkX (rL3FF X) (fun zs => (zs 3).m) (fun zs led => fun j₁ => match j₁ with | 0 => ob led 0 | _ => default) (fun zs => xx 0 0 0))
noncomputable def rL3TF (X : Mine.CJ) (m tk : Nat) (zs : Nat → Ov) (n₀ t₀ : Nat) : Nat → Nat := fun j₀ => match j₀ with | _ => 0
noncomputable def rL3TC (b₀ : Bool) (P₀ : Params) (p₀ : Program) (top : KT) : Prop := ∀ (X : Mine.CJ), Chk b₀ P₀ p₀ top 24 (rL3T top P₀ X) 1876585273993797175538671566976862757274606507131137 (rL3TR top P₀ X) [0, 1, 2, 3, 4, 5] (mkX (rL3TF X) (fun zs => (zs 3).m) (fun zs led => fun j₁ => match j₁ with | 0 => ob led 0 | _ => default) (fun zs => xx 0 0 0))
noncomputable def rL3BF2 (X : Mine.CJ) (m tk : Nat) (zs : Nat → Ov) (n₀ t₀ : Nat) : Nat → Nat := fun j₀ => match j₀ with | _ => 0
noncomputable def rL3BC2 (b₀ : Bool) (P₀ : Params) (p₀ : Program) (top : KT) : Prop := ∀ (X : Mine.CJ), Chk2 false (fol b₀ P₀) p₀ top 15 (rL3B top P₀ X) 397382388851246185992624800001 (rL3BR top P₀ X) [0, 1, 2, 3, 4, 5] (mkX (rL3BF2 X) (fun zs => (zs 0).m) (fun zs led => fun j₁ => match j₁ with | 0 => ob led 0 | _ => default) (fun zs => xx 0 0 0))
noncomputable def rL3BF3 (X : Mine.CJ) (m tk : Nat) (zs : Nat → Ov) (n₀ t₀ : Nat) : Nat → Nat := fun j₀ => match j₀ with | _ => 0
noncomputable def rL3BC3 (P₀ : Params) (p₀ : Program) (top : KT) : Prop := ∀ (X : Mine.CJ), Chk2 true P₀ p₀ top 5 (rL3B top P₀ X) 1411785848586242 (rL3BR top P₀ X) [0, 1, 2, 3, 4, 5] (mkX (rL3BF3 X) (fun zs => (zs 0).m) (fun zs led => fun j₁ => match j₁ with | 0 => ob led 0 | _ => default) (fun zs => xx 0 0 0))
noncomputable def rL4EF (X : Mine.CJ) (kx : List PySem.DictEntry) (nn : Nat) (m tk : Nat) (zs : Nat → Ov) (n₀ t₀ : Nat) : Nat → Nat := fun j₀ => match j₀ with | _ => 0
noncomputable def rL4EC (b₀ : Bool) (P₀ : Params) (p₀ : Program) (top : KT) : Prop := ∀ (X : Mine.CJ) (kx : List PySem.DictEntry) (nn : Nat), Chk b₀ P₀ p₀ top 8 (rL4E top P₀ X kx nn) 4311744769 (rL4ER top P₀ X kx nn) [2, 3, 4, 5, 6, 7] (mkX (rL4EF X kx nn) (fun zs => fun i k => match i with | 1 => nn | _ => 0) (fun zs led => fun j₁ => match j₁ with | 0 => ob led 2 | _ => default) (fun zs => xx 0 0 0))
noncomputable def rL4FF (X : Mine.CJ) (m tk : Nat) (zs : Nat → Ov) (n₀ t₀ : Nat) : Nat → Nat := fun j₀ => match j₀ with | _ => 0
noncomputable def rL4FC (b₀ : Bool) (P₀ : Params) (p₀ : Program) (top : KT) : Prop := ∀ (X : Mine.CJ), Chk b₀ P₀ p₀ top 24 (rL4F top P₀ X) 1876585273993797175538671566976862757274606507131137 (rL4FR top P₀ X) [0, 1, 2, 3, 4, 5] (mkX (rL4FF X) (fun zs => (zs 3).m) (fun zs led => fun j₁ => match j₁ with | 0 => ob led 0 | _ => default) (fun zs => xx 0 0 0))
noncomputable def rL4TF (X : Mine.CJ) (m tk : Nat) (zs : Nat → Ov) (n₀ t₀ : Nat) : Nat → Nat := fun j₀ => match j₀ with | _ => 0
noncomputable def rL4TC (b₀ : Bool) (P₀ : Params) (p₀ : Program) (top : KT) : Prop := ∀ (X : Mine.CJ), Chk b₀ P₀ p₀ top 24 (rL4T top P₀ X) 1876585273993797175538671566976862757274606507131137 (rL4TR top P₀ X) [0, 1, 2, 3, 4, 5] (mkX (rL4TF X) (fun zs => (zs 3).m) (fun zs led => fun j₁ => match j₁ with | 0 => ob led 0 | _ => default) (fun zs => xx 0 0 0))
noncomputable def rL4BF2 (X : Mine.CJ) (m tk : Nat) (zs : Nat → Ov) (n₀ t₀ : Nat) : Nat → Nat := fun j₀ => match j₀ with | _ => 0
noncomputable def rL4BC2 (b₀ : Bool) (P₀ : Params) (p₀ : Program) (top : KT) : Prop := ∀ (X : Mine.CJ), Chk2 false (fol b₀ P₀) p₀ top 15 (rL4B top P₀ X) 397382388851246185992624800001 (rL4BR top P₀ X) [0, 1, 2, 3, 4, 5] (mkX (rL4BF2 X) (fun zs => (zs 0).m) (fun zs led => fun j₁ => match j₁ with | 0 => ob led 0 | _ => default) (fun zs => xx 0 0 0))
noncomputable def rL4BF3 (X : Mine.CJ) (m tk : Nat) (zs : Nat → Ov) (n₀ t₀ : Nat) : Nat → Nat := fun j₀ => match j₀ with | _ => 0
noncomputable def rL4BC3 (P₀ : Params) (p₀ : Program) (top : KT) : Prop := ∀ (X : Mine.CJ), Chk2 true P₀ p₀ top 5 (rL4B top P₀ X) 1411785848586242 (rL4BR top P₀ X) [0, 1, 2, 3, 4, 5] (mkX (rL4BF3 X) (fun zs => (zs 0).m) (fun zs led => fun j₁ => match j₁ with | 0 => ob led 0 | _ => default) (fun zs => xx 0 0 0))
noncomputable def rL5EF (X : Mine.CJ) (kx : List PySem.DictEntry) (nn : Nat) (m tk : Nat) (zs : Nat → Ov) (n₀ t₀ : Nat) : Nat → Nat := fun j₀ => match j₀ with | _ => 0
noncomputable def rL5EC (b₀ : Bool) (P₀ : Params) (p₀ : Program) (top : KT) : Prop := ∀ (X : Mine.CJ) (kx : List PySem.DictEntry) (nn : Nat), Chk b₀ P₀ p₀ top 8 (rL5E top P₀ X kx nn) 4311744769 (rL5ER top P₀ X kx nn) [2, 3, 4, 5, 6, 7] (mkX (rL5EF X kx nn) (fun zs => fun i k => match i with | 1 => nn | _ => 0) (fun zs led => fun j₁ => match j₁ with | 0 => ob led 2 | _ => default) (fun zs => xx 0 0 0))
noncomputable def rL5FF (X : Mine.CJ) (m tk : Nat) (zs : Nat → Ov) (n₀ t₀ : Nat) : Nat → Nat := fun j₀ => match j₀ with | _ => 0
noncomputable def rL5FC (b₀ : Bool) (P₀ : Params) (p₀ : Program) (top : KT) : Prop := ∀ (X : Mine.CJ), Chk b₀ P₀ p₀ top 24 (rL5F top P₀ X) 1876585273993797175538671566976862757274606507131137 (rL5FR top P₀ X) [0, 1, 2, 3, 4, 5] (mkX (rL5FF X) (fun zs => (zs 3).m) (fun zs led => fun j₁ => match j₁ with | 0 => ob led 0 | _ => default) (fun zs => xx 0 0 0))
noncomputable def rL5TF (X : Mine.CJ) (m tk : Nat) (zs : Nat → Ov) (n₀ t₀ : Nat) : Nat → Nat := fun j₀ => match j₀ with | _ => 0
noncomputable def rL5TC (b₀ : Bool) (P₀ : Params) (p₀ : Program) (top : KT) : Prop := ∀ (X : Mine.CJ), Chk b₀ P₀ p₀ top 24 (rL5T top P₀ X) 1876585273993797175538671566976862757274606507131137 (rL5TR top P₀ X) [0, 1, 2, 3, 4, 5] (mkX (rL5TF X) (fun zs => (zs 3).m) (fun zs led => fun j₁ => match j₁ with | 0 => ob led 0 | _ => default) (fun zs => xx 0 0 0))
noncomputable def rL5BF2 (X : Mine.CJ) (m tk : Nat) (zs : Nat → Ov) (n₀ t₀ : Nat) : Nat → Nat := fun j₀ => match j₀ with | _ => 0
noncomputable def rL5BC2 (b₀ : Bool) (P₀ : Params) (p₀ : Program) (top : KT) : Prop := ∀ (X : Mine.CJ), Chk2 false (fol b₀ P₀) p₀ top 15 (rL5B top P₀ X) 397382388851246185992624800001 (rL5BR top P₀ X) [0, 1, 2, 3, 4, 5] (mkX (rL5BF2 X) (fun zs => (zs 0).m) (fun zs led => fun j₁ => match j₁ with | 0 => ob led 0 | _ => default) (fun zs => xx 0 0 0))
noncomputable def rL5BF3 (X : Mine.CJ) (m tk : Nat) (zs : Nat → Ov) (n₀ t₀ : Nat) : Nat → Nat := fun j₀ => match j₀ with | _ => 0
noncomputable def rL5BC3 (P₀ : Params) (p₀ : Program) (top : KT) : Prop := ∀ (X : Mine.CJ), Chk2 true P₀ p₀ top 5 (rL5B top P₀ X) 1411785848586242 (rL5BR top P₀ X) [0, 1, 2, 3, 4, 5] (mkX (rL5BF3 X) (fun zs => (zs 0).m) (fun zs led => fun j₁ => match j₁ with | 0 => ob led 0 | _ => default) (fun zs => xx 0 0 0))
noncomputable def rT1_0F (X : Mine.OL) (L : Nat) (cl : Nat) (t0 : Nat) (m tk : Nat) (zs : Nat → Ov) (n₀ t₀ : Nat) : Nat → Nat := fun j₀ => match j₀ with | 0 => (zs 12).n (2) | 1 => (zs 12).n (3) | 2 => (zs 12).n (4) | 3 => (zs 12).n (5) | 4 => (zs 12).n (6) | 5 => (zs 11).n (0) | 6 => (zs 8).n (0) + 4 | 7 => (zs 8).n (4) | 8 => (zs 9).n (0) + 1 | 9 => (zs 10).n (0) + 1 | 10 => (zs 1).n (0) + 1 | 11 => (zs 5).n (2) | 12 => (zs 7).n (2) | 13 => (zs 2).n (1) | 14 => (zs 5).n (1) | 15 => (zs 7).n (1) | 16 => (zs 8).n (1) | 17 => (zs 8).n (1) + 1 | 18 => (zs 8).n (1) + 2 | 19 => (zs 8).n (1) + 3 | 20 => (zs 11).n (1) | 21 => (zs 8).n (3) | 22 => (zs 8).n (5) | 23 => (zs 8).n (6) | 24 => (zs 8).n (4) | 25 => (zs 2).n (1) + 1 | _ => 0
noncomputable def rT1_0C (b₀ : Bool) (P₀ : Params) (p₀ : Program) (top : KT) : Prop := ∀ (X : Mine.OL) (L : Nat) (cl : Nat) (t0 : Nat), ChkT (fol b₀ P₀) p₀ top 347 (rT1_0 top P₀ X L cl t0) (rT1_0T top P₀ X L cl t0) 1887401602429992346880874345547602987151106053890736740394293069399585536484556299489273565588482959471217790819522865715036088300226799907354403830047456077592007902293985372529289752225566647264174664336895876240956429762753851145608952190129116664907433842444137095814700869477614213527845308967836594566306372670918243813807540240459221009130608200370245740071990787595533921157350072151658691858391723381886182013951013205512552114848449064291415488031306552072973636855884145048401504756432960827229185 (rT1_0R top P₀ X L cl t0) [39, 40, 41, 0, 1, 2, 3, 4, 12, 9, 6, 33, 25] (mkX (rT1_0F X L cl t0) (fun zs => fun i => match i with | 0 => (zs 2).m 0 | 1 => (zs 4).m 0 | 2 => (zs 12).m 0 | 3 => (zs 12).m 2 | 4 => (zs 12).m 3 | 5 => (zs 9).m 0 | 6 => (zs 10).m 0 | _ => (zs 11).m 0) (fun zs led => fun j₁ => match j₁ with | 0 => ob led 39 | 1 => ob led 40 | _ => default) (fun zs => xx 0 0 0))
noncomputable def rT1_1F (X : Mine.OL) (L : Nat) (cl : Nat) (t0 : Nat) (m tk : Nat) (zs : Nat → Ov) (n₀ t₀ : Nat) : Nat → Nat := fun j₀ => match j₀ with | 0 => (zs 12).n (2) | 1 => (zs 12).n (3) | 2 => (zs 12).n (4) | 3 => (zs 12).n (5) | 4 => (zs 12).n (6) | 5 => (zs 11).n (0) | 6 => (zs 8).n (0) + 4 | 7 => (zs 8).n (4) | 8 => (zs 9).n (0) + 1 | 9 => (zs 10).n (0) + 1 | 10 => (zs 1).n (0) + 1 | 11 => (zs 5).n (2) | 12 => (zs 7).n (2) | 13 => (zs 2).n (1) | 14 => (zs 5).n (1) | 15 => (zs 7).n (1) | 16 => (zs 8).n (1) | 17 => (zs 8).n (1) + 1 | 18 => (zs 8).n (1) + 2 | 19 => (zs 8).n (1) + 3 | 20 => (zs 11).n (1) | 21 => (zs 8).n (3) | 22 => (zs 8).n (5) | 23 => (zs 8).n (6) | 24 => (zs 8).n (4) | 25 => (zs 2).n (1) + 1 | _ => 0
noncomputable def rT1_1C (b₀ : Bool) (P₀ : Params) (p₀ : Program) (top : KT) : Prop := ∀ (X : Mine.OL) (L : Nat) (cl : Nat) (t0 : Nat), ChkT (fol b₀ P₀) p₀ top 343 (rT1_1 top P₀ X L cl t0) (rT1_1T top P₀ X L cl t0) 28799462927703740644544591454278610033433625089885509344395341024891712616127892625121999085862481834184391485475257915512600531616619876201792503250891796040387253805636483270080020185253371514099908372180120838332559858280624923404259161449448327871898497454411156293912238401661135153616650823794608555989533559952671241958540173907893895845942105828186550035223172641875965462048572947218136839070513603766118465246375033799806863460846624067856991949052014666695416841673719627687272766300059927553 (rT1_1R top P₀ X L cl t0) [39, 40, 41, 0, 1, 2, 3, 4, 12, 9, 6, 33, 25] (mkX (rT1_1F X L cl t0) (fun zs => fun i => match i with | 0 => (zs 2).m 0 | 1 => (zs 4).m 0 | 2 => (zs 12).m 0 | 3 => (zs 12).m 2 | 4 => (zs 12).m 3 | 5 => (zs 9).m 0 | 6 => (zs 10).m 0 | _ => (zs 11).m 0) (fun zs led => fun j₁ => match j₁ with | 0 => ob led 39 | 1 => ob led 40 | _ => default) (fun zs => xx 0 0 0))
noncomputable def rT1_2F (X : Mine.OL) (L : Nat) (cl : Nat) (t0 : Nat) (m tk : Nat) (zs : Nat → Ov) (n₀ t₀ : Nat) : Nat → Nat := fun j₀ => match j₀ with | 0 => (zs 12).n (2) | 1 => (zs 12).n (3) | 2 => (zs 12).n (4) | 3 => (zs 12).n (5) | 4 => (zs 12).n (6) | 5 => (zs 11).n (0) | 6 => (zs 8).n (0) + 4 | 7 => (zs 8).n (4) | 8 => (zs 9).n (0) + 1 | 9 => (zs 10).n (0) + 1 | 10 => (zs 1).n (0) + 1 | 11 => (zs 5).n (2) | 12 => (zs 7).n (2) | 13 => (zs 2).n (1) | 14 => (zs 5).n (1) | 15 => (zs 7).n (1) | 16 => (zs 8).n (1) | 17 => (zs 8).n (1) + 1 | 18 => (zs 8).n (1) + 2 | 19 => (zs 8).n (1) + 3 | 20 => (zs 11).n (1) | 21 => (zs 8).n (3) | 22 => (zs 8).n (5) | 23 => (zs 8).n (6) | 24 => (zs 8).n (4) | 25 => (zs 2).n (1) + 1 | _ => 0
noncomputable def rT1_2C (b₀ : Bool) (P₀ : Params) (p₀ : Program) (top : KT) : Prop := ∀ (X : Mine.OL) (L : Nat) (cl : Nat) (t0 : Nat), ChkT (fol b₀ P₀) p₀ top 343 (rT1_2 top P₀ X L cl t0) (rT1_2T top P₀ X L cl t0) 28799462927703740644544603756163935622749575157618434308334706081178301471901423619477447423701158153611997619799156112234350442778238361569626755411258243212928615628586263821952186140303901639537695477967397057533406043102319876979172114798373650195481096121995237856690564436330248936763882232622274201033622085537171882150269098971974239514195094397131242103020961682829827379701515531917294919671633508653317259837793741319225335412817444835048007323721073762927404205497308021265792586651063616513 (rT1_2R top P₀ X L cl t0) [39, 40, 41, 0, 1, 2, 3, 4, 12, 9, 6, 33, 25] (mkX (rT1_2F X L cl t0) (fun zs => fun i => match i with | 0 => (zs 2).m 0 | 1 => (zs 4).m 0 | 2 => (zs 12).m 0 | 3 => (zs 12).m 2 | 4 => (zs 12).m 3 | 5 => (zs 9).m 0 | 6 => (zs 10).m 0 | _ => (zs 11).m 0) (fun zs led => fun j₁ => match j₁ with | 0 => ob led 39 | 1 => ob led 40 | _ => default) (fun zs => xx 0 0 0))
noncomputable def rT1_3F (X : Mine.OL) (L : Nat) (cl : Nat) (t0 : Nat) (m tk : Nat) (zs : Nat → Ov) (n₀ t₀ : Nat) : Nat → Nat := fun j₀ => match j₀ with | 0 => (zs 12).n (2) | 1 => (zs 12).n (3) | 2 => (zs 12).n (4) | 3 => (zs 12).n (5) | 4 => (zs 12).n (6) | 5 => (zs 11).n (0) | 6 => (zs 8).n (0) + 4 | 7 => (zs 8).n (4) | 8 => (zs 9).n (0) + 1 | 9 => (zs 10).n (0) + 1 | 10 => (zs 1).n (0) + 1 | 11 => (zs 5).n (2) | 12 => (zs 7).n (2) | 13 => (zs 2).n (1) | 14 => (zs 5).n (1) | 15 => (zs 7).n (1) | 16 => (zs 8).n (1) | 17 => (zs 8).n (1) + 1 | 18 => (zs 8).n (1) + 2 | 19 => (zs 8).n (1) + 3 | 20 => (zs 11).n (1) | 21 => (zs 8).n (3) | 22 => (zs 8).n (5) | 23 => (zs 8).n (6) | 24 => (zs 8).n (4) | 25 => (zs 2).n (1) + 1 | _ => 0
noncomputable def rT1_3C (b₀ : Bool) (P₀ : Params) (p₀ : Program) (top : KT) : Prop := ∀ (X : Mine.OL) (L : Nat) (cl : Nat) (t0 : Nat), ChkT (fol b₀ P₀) p₀ top 343 (rT1_3 top P₀ X L cl t0) (rT1_3T top P₀ X L cl t0) 28799462927703740644544591454278610033433625089885509344395341024773949226143742362812401818671920157947048810112348414841248905948284910695715390473136231652710081516937032661884914432152811390139383916273435611586859585002957933740370974580827585829276029090028947384867872153894259849973225539670358193455602610335056210537834781501147781511392337041782314149047710992363493670003510622430718977022037439251981633132223120161221320622185882879030227934377695877497679759702479126205915495721999598593 (rT1_3R top P₀ X L cl t0) [39, 40, 41, 0, 1, 2, 3, 4, 12, 9, 6, 33, 25] (mkX (rT1_3F X L cl t0) (fun zs => fun i => match i with | 0 => (zs 2).m 0 | 1 => (zs 4).m 0 | 2 => (zs 12).m 0 | 3 => (zs 12).m 2 | 4 => (zs 12).m 3 | 5 => (zs 9).m 0 | 6 => (zs 10).m 0 | _ => (zs 11).m 0) (fun zs led => fun j₁ => match j₁ with | 0 => ob led 39 | 1 => ob led 40 | _ => default) (fun zs => xx 0 0 0))
noncomputable def rT1_4F (X : Mine.OL) (L : Nat) (cl : Nat) (t0 : Nat) (m tk : Nat) (zs : Nat → Ov) (n₀ t₀ : Nat) : Nat → Nat := fun j₀ => match j₀ with | 0 => (zs 12).n (2) | 1 => (zs 12).n (3) | 2 => (zs 12).n (4) | 3 => (zs 12).n (5) | 4 => (zs 12).n (6) | 5 => (zs 11).n (0) | 6 => (zs 8).n (0) + 4 | 7 => (zs 8).n (4) | 8 => (zs 9).n (0) + 1 | 9 => (zs 10).n (0) + 1 | 10 => (zs 1).n (0) + 1 | 11 => (zs 5).n (2) | 12 => (zs 7).n (2) | 13 => (zs 2).n (1) | 14 => (zs 5).n (1) | 15 => (zs 7).n (1) | 16 => (zs 8).n (1) | 17 => (zs 8).n (1) + 1 | 18 => (zs 8).n (1) + 2 | 19 => (zs 8).n (1) + 3 | 20 => (zs 11).n (1) | 21 => (zs 8).n (3) | 22 => (zs 8).n (5) | 23 => (zs 8).n (6) | 24 => (zs 8).n (4) | 25 => (zs 2).n (1) + 1 | _ => 0
noncomputable def rT1_4C (b₀ : Bool) (P₀ : Params) (p₀ : Program) (top : KT) : Prop := ∀ (X : Mine.OL) (L : Nat) (cl : Nat) (t0 : Nat), ChkT (fol b₀ P₀) p₀ top 339 (rT1_4 top P₀ X L cl t0) (rT1_4T top P₀ X L cl t0) 439444929927120065987313712376077423605859757841270589361501175306575204713865549089385972379493436190557731406787993095590218072763364810208015491499203430792041836633857471772461245502523369050596746401674207127877195103158949636905809958640263791990638694067553044035526098658159410913340008907998787780602013549082507964455263884092619260344575589419350433887072336454406211273934523134233956353649147574652305108758123886843266457913249096334638489062148580642689404589854221451727965855482881 (rT1_4R top P₀ X L cl t0) [39, 40, 41, 0, 1, 2, 3, 4, 12, 9, 6, 33, 25] (mkX (rT1_4F X L cl t0) (fun zs => fun i => match i with | 0 => (zs 2).m 0 | 1 => (zs 4).m 0 | 2 => (zs 12).m 0 | 3 => (zs 12).m 2 | 4 => (zs 12).m 3 | 5 => (zs 9).m 0 | 6 => (zs 10).m 0 | _ => (zs 11).m 0) (fun zs led => fun j₁ => match j₁ with | 0 => ob led 39 | 1 => ob led 40 | _ => default) (fun zs => xx 0 0 0))
noncomputable def rT1_5F (X : Mine.OL) (L : Nat) (cl : Nat) (t0 : Nat) (m tk : Nat) (zs : Nat → Ov) (n₀ t₀ : Nat) : Nat → Nat := fun j₀ => match j₀ with | 0 => (zs 12).n (2) | 1 => (zs 12).n (3) | 2 => (zs 12).n (4) | 3 => (zs 12).n (5) | 4 => (zs 12).n (6) | 5 => (zs 11).n (0) | 6 => (zs 8).n (0) + 4 | 7 => (zs 8).n (4) | 8 => (zs 9).n (0) + 1 | 9 => (zs 10).n (0) + 1 | 10 => (zs 1).n (0) + 1 | 11 => (zs 5).n (2) | 12 => (zs 7).n (2) | 13 => (zs 2).n (1) | 14 => (zs 5).n (1) | 15 => (zs 7).n (1) | 16 => (zs 8).n (1) | 17 => (zs 8).n (1) + 1 | 18 => (zs 8).n (1) + 2 | 19 => (zs 8).n (1) + 3 | 20 => (zs 11).n (1) | 21 => (zs 8).n (3) | 22 => (zs 8).n (5) | 23 => (zs 8).n (6) | 24 => (zs 8).n (4) | 25 => (zs 2).n (1) + 1 | _ => 0
noncomputable def rT1_5C (b₀ : Bool) (P₀ : Params) (p₀ : Program) (top : KT) : Prop := ∀ (X : Mine.OL) (L : Nat) (cl : Nat) (t0 : Nat), ChkT (fol b₀ P₀) p₀ top 339 (rT1_5 top P₀ X L cl t0) (rT1_5T top P₀ X L cl t0) 439444929927120065987313900087950677837365343591589878972392365740635703611777093803061636714190035302917444149767396732091528973056615624536541067676669970900400018746738644744143465275633264763453605315664627953085419358861082107226137005590418246391007936431812101084755927068027480114194980356174838272607758873553037752537065108825290519930955419878101228378615748334195364070152519116581949526884009404596134371932847817498455544094444481576200613309418159137440188339603800211165829325194241 (rT1_5R top P₀ X L cl t0) [39, 40, 41, 0, 1, 2, 3, 4, 12, 9, 6, 33, 25] (mkX (rT1_5F X L cl t0) (fun zs => fun i => match i with | 0 => (zs 2).m 0 | 1 => (zs 4).m 0 | 2 => (zs 12).m 0 | 3 => (zs 12).m 2 | 4 => (zs 12).m 3 | 5 => (zs 9).m 0 | 6 => (zs 10).m 0 | _ => (zs 11).m 0) (fun zs led => fun j₁ => match j₁ with | 0 => ob led 39 | 1 => ob led 40 | _ => default) (fun zs => xx 0 0 0))
noncomputable def rT2_0F (X : Mine.OL) (L : Nat) (cl : Nat) (t0 : Nat) (y : Mine.Ov) (o : PySem.Obj) (m tk : Nat) (zs : Nat → Ov) (n₀ t₀ : Nat) : Nat → Nat := fun j₀ => match j₀ with | _ => 0
noncomputable def rT2_0C (b₀ : Bool) (P₀ : Params) (p₀ : Program) (top : KT) : Prop := ∀ (X : Mine.OL) (L : Nat) (cl : Nat) (t0 : Nat) (y : Mine.Ov) (o : PySem.Obj), ChkT (fol b₀ P₀) p₀ top 6 (rT2_0 top P₀ X L cl t0 y o) (rT2_0T top P₀ X L cl t0 y o) 1 (rT2_0R top P₀ X L cl t0 y o) [0] (mkX (rT2_0F X L cl t0 y o) (fun zs => fun _ _ => 0) (fun zs led => fun _ => default) (fun zs => xx 0 0 0))
noncomputable def rT2_1F (X : Mine.OL) (L : Nat) (cl : Nat) (t0 : Nat) (y : Mine.Ov) (o : PySem.Obj) (m tk : Nat) (zs : Nat → Ov) (n₀ t₀ : Nat) : Nat → Nat := fun j₀ => match j₀ with | _ => 0
noncomputable def rT2_1C (b₀ : Bool) (P₀ : Params) (p₀ : Program) (top : KT) : Prop := ∀ (X : Mine.OL) (L : Nat) (cl : Nat) (t0 : Nat) (y : Mine.Ov) (o : PySem.Obj), ChkT (fol b₀ P₀) p₀ top 6 (rT2_1 top P₀ X L cl t0 y o) (rT2_1T top P₀ X L cl t0 y o) 1 (rT2_1R top P₀ X L cl t0 y o) [0] (mkX (rT2_1F X L cl t0 y o) (fun zs => fun _ _ => 0) (fun zs led => fun _ => default) (fun zs => xx 0 0 0))
noncomputable def rT3F (X : Mine.OL) (L : Nat) (cl : Nat) (t0 : Nat) (y : Mine.Ov) (o : PySem.Obj) (m tk : Nat) (zs : Nat → Ov) (n₀ t₀ : Nat) : Nat → Nat := fun j₀ => match j₀ with | 0 => (zs 1).n (2) | 1 => (zs 1).n (3) | 2 => (zs 1).n (4) | 3 => (zs 1).n (5) | 4 => (zs 1).n (6) | 5 => 0 | 6 => 0 | 7 => (zs 1).n (9) | _ => 0
noncomputable def rT3C (b₀ : Bool) (P₀ : Params) (p₀ : Program) (top : KT) : Prop := ∀ (X : Mine.OL) (L : Nat) (cl : Nat) (t0 : Nat) (y : Mine.Ov) (o : PySem.Obj), ChkT (fol b₀ P₀) p₀ top 23 (rT3 top P₀ X L cl t0 y o) (rT3T top P₀ X L cl t0 y o) 313116509791069588458373376 (rT3R top P₀ X L cl t0 y o) [4, 5, 6, 7, 0, 1, 2, 3] (mkX (rT3F X L cl t0 y o) (fun zs => (zs 1).m) (fun zs led => fun _ => default) (fun zs => xx 0 0 0))
noncomputable def rLawF (X : Mine.OL) (m tk : Nat) (zs : Nat → Ov) (n₀ t₀ : Nat) : Nat → Nat := fun j₀ => match j₀ with | 0 => 0 | 1 => (zs 0).n (3) | _ => 0
noncomputable def rLawC (b₀ : Bool) (P₀ : Params) (p₀ : Program) (top : KT) : Prop := ∀ (X : Mine.OL), Chk b₀ P₀ p₀ top 12 (rLaw top P₀ X) 55484348517339758592 (rLawR top P₀ X) [2, 3] (mkX (rLawF X) (fun zs => fun _ _ => 0) (fun zs led => fun _ => default) (fun zs => xx 0 0 0))
noncomputable def rDLenKF (a : PySem.Addr) (st : Int) (V : Nat → PySem.Value) (m tk : Nat) (zs : Nat → Ov) (n₀ t₀ : Nat) : Nat → Nat := fun j₀ => match j₀ with | 0 => tk + 1 | _ => 0
noncomputable def rDLenKC (b₀ : Bool) (P₀ : Params) (p₀ : Program) (top : KT) : Prop := ∀ (a : PySem.Addr) (st : Int) (V : Nat → PySem.Value), ChkM (fol b₀ P₀) p₀ top 18 13 (fun k => rDLenK a st V k) 4295032833 (fun k => rDLenKR a st V k) [0] (mkX (rDLenKF a st V) (fun zs => fun _ _ => 0) (fun zs led => fun _ => default) (fun zs => xx 0 0 0))
noncomputable def rDPopKF (a : PySem.Addr) (st : Int) (s : PySem.Str) (t : Nat) (V : Nat → PySem.Value) (m tk : Nat) (zs : Nat → Ov) (n₀ t₀ : Nat) : Nat → Nat := fun j₀ => match j₀ with | _ => 0
noncomputable def rDPopKC (b₀ : Bool) (P₀ : Params) (p₀ : Program) (top : KT) : Prop := ∀ (a : PySem.Addr) (st : Int) (s : PySem.Str) (t : Nat) (V : Nat → PySem.Value), ChkM (fol b₀ P₀) p₀ top 18 11 (fun k => rDPopK a st s t V k) 282578800148481 (fun k => rDPopKR a st s t V k) [0] (mkX (rDPopKF a st s t V) (fun zs => fun _ _ => 0) (fun zs led => fun _ => default) (fun zs => xx 0 0 0))
noncomputable def rDAppKF (a : PySem.Addr) (st : Int) (s : PySem.Str) (t : Nat) (V : Nat → PySem.Value) (m tk : Nat) (zs : Nat → Ov) (n₀ t₀ : Nat) : Nat → Nat := fun j₀ => match j₀ with | _ => 0
noncomputable def rDAppKC (b₀ : Bool) (P₀ : Params) (p₀ : Program) (top : KT) : Prop := ∀ (a : PySem.Addr) (st : Int) (s : PySem.Str) (t : Nat) (V : Nat → PySem.Value), ChkM (fol b₀ P₀) p₀ top 18 11 (fun k => rDAppK a st s t V k) 282578800148481 (fun k => rDAppKR a st s t V k) [0] (mkX (rDAppKF a st s t V) (fun zs => fun _ _ => 0) (fun zs led => fun _ => default) (fun zs => xx 0 0 0))
noncomputable def rLiEKF (it : PySem.Addr) (l : PySem.Addr) (n : Nat) (V : Nat → PySem.Value) (m tk : Nat) (zs : Nat → Ov) (n₀ t₀ : Nat) : Nat → Nat := fun j₀ => match j₀ with | 0 => m + 830 | 1 => m + 829 | _ => 0
noncomputable def rLiEKC (b₀ : Bool) (P₀ : Params) (p₀ : Program) (top : KT) : Prop := ∀ (it : PySem.Addr) (l : PySem.Addr) (n : Nat) (V : Nat → PySem.Value), ChkM (fol b₀ P₀) p₀ top 24 15 (fun k => rLiEK it l n V k) 282583095115777 (fun k => rLiEKR it l n V k) [2, 3, 0, 1] (mkX (rLiEKF it l n V) (fun zs => fun _ _ => 0) (fun zs led => fun _ => default) (fun zs => xx 0 0 0))
noncomputable def rLxTKF (X : Mine.LX) (v : Mine.LV) (l : PySem.Addr) (V : Nat → PySem.Value) (k1 : Nat) (v1 : Mine.Ov → Mine.LV) (wd : PySem.Str) (wt : Mine.Ov → Nat) (D : (Nat → Nat) → List PySem.Value) (n : Nat) (E2 : PySem.Env) (E1 : PySem.Env) (L2 : PySem.Addr) (L1 : PySem.Addr) (F2 : PySem.Obj) (F1 : PySem.Obj) (m tk : Nat) (zs : Nat → Ov) (n₀ t₀ : Nat) : Nat → Nat := fun j₀ => match j₀ with | _ => 0
noncomputable def rLxTKC (b₀ : Bool) (P₀ : Params) (p₀ : Program) (top : KT) : Prop := ∀ (X : Mine.LX) (v : Mine.LV) (l : PySem.Addr) (V : Nat → PySem.Value) (k1 : Nat) (v1 : Mine.Ov → Mine.LV) (wd : PySem.Str) (wt : Mine.Ov → Nat) (D : (Nat → Nat) → List PySem.Value) (n : Nat) (E2 : PySem.Env) (E1 : PySem.Env) (L2 : PySem.Addr) (L1 : PySem.Addr) (F2 : PySem.Obj) (F1 : PySem.Obj), ChkM (fol b₀ P₀) p₀ top 24 90 (fun k => rLxTK X v l V k1 v1 wd wt D n E2 E1 L2 L1 F2 F1 k) 133140635179402012488158932463597067885080525244192044428459580820305815952118831331768822540774527062603966070559011410827559118972280807437680250127717565860283416578 (fun k => rLxTKR X v l V k1 v1 wd wt D n E2 E1 L2 L1 F2 F1 k) [1, 2, 3, 4, 5, 6, 7, 8, 9] (mkX (rLxTKF X v l V k1 v1 wd wt D n E2 E1 L2 L1 F2 F1) (fun zs => (zs 1).m) (fun zs led => fun j₁ => match j₁ with | 0 => ob led 2 | 1 => ob led 3 | 2 => ob led 4 | 3 => ob led 5 | 4 => ob led 6 | 5 => ob led 7 | 6 => ob led 8 | 7 => ob led 9 | _ => default) (fun zs => xx 0 0 0))
structure Checks (P₀ : Params) (p₀ : Program) (top : KT) : Prop where
  rReadMid : ∀ b₀ : Bool, rReadMidC b₀ P₀ p₀ top
  rReadLast : ∀ b₀ : Bool, rReadLastC b₀ P₀ p₀ top
  rEof : ∀ b₀ : Bool, rEofC b₀ P₀ p₀ top
  rTok0 : ∀ b₀ : Bool, rTok0C b₀ P₀ p₀ top
  rTokE0 : ∀ b₀ : Bool, rTokE0C b₀ P₀ p₀ top
  rTok1 : ∀ b₀ : Bool, rTok1C b₀ P₀ p₀ top
  rTokE1 : ∀ b₀ : Bool, rTokE1C b₀ P₀ p₀ top
  rTok2 : ∀ b₀ : Bool, rTok2C b₀ P₀ p₀ top
  rTokE2 : ∀ b₀ : Bool, rTokE2C b₀ P₀ p₀ top
  rTok3 : ∀ b₀ : Bool, rTok3C b₀ P₀ p₀ top
  rTokE3 : ∀ b₀ : Bool, rTokE3C b₀ P₀ p₀ top
  rTokN : ∀ b₀ : Bool, rTokNC b₀ P₀ p₀ top
  rTokZ : ∀ b₀ : Bool, rTokZC b₀ P₀ p₀ top
  rGetP : ∀ b₀ : Bool, rGetPC b₀ P₀ p₀ top
  rPush : ∀ b₀ : Bool, rPushC b₀ P₀ p₀ top
  rGetW : ∀ b₀ : Bool, rGetWC b₀ P₀ p₀ top
  rGetN : ∀ b₀ : Bool, rGetNC b₀ P₀ p₀ top
  rRule0 : ∀ b₀ : Bool, rRule0C b₀ P₀ p₀ top
  rRule1 : ∀ b₀ : Bool, rRule1C b₀ P₀ p₀ top
  rRule2 : ∀ b₀ : Bool, rRule2C b₀ P₀ p₀ top
  rRule3 : ∀ b₀ : Bool, rRule3C b₀ P₀ p₀ top
  rStream : ∀ b₀ : Bool, rStreamC b₀ P₀ p₀ top
  rGive : ∀ b₀ : Bool, rGiveC b₀ P₀ p₀ top
  rRdc : ∀ b₀ : Bool, rRdcC b₀ P₀ p₀ top
  rNA0 : ∀ b₀ : Bool, rNA0C b₀ P₀ p₀ top
  rNB0 : ∀ b₀ : Bool, rNB0C b₀ P₀ p₀ top
  rNA1 : ∀ b₀ : Bool, rNA1C b₀ P₀ p₀ top
  rNB1 : ∀ b₀ : Bool, rNB1C b₀ P₀ p₀ top
  rNA2 : ∀ b₀ : Bool, rNA2C b₀ P₀ p₀ top
  rNB2 : ∀ b₀ : Bool, rNB2C b₀ P₀ p₀ top
  rNA3 : ∀ b₀ : Bool, rNA3C b₀ P₀ p₀ top
  rNB3 : ∀ b₀ : Bool, rNB3C b₀ P₀ p₀ top
  rNPop : ∀ b₀ : Bool, rNPopC b₀ P₀ p₀ top
  rNPush : ∀ b₀ : Bool, rNPushC b₀ P₀ p₀ top
  rShNew : ∀ b₀ : Bool, rShNewC b₀ P₀ p₀ top
  rRdLE : ∀ b₀ : Bool, rRdLEC b₀ P₀ p₀ top
  rRdLF : ∀ b₀ : Bool, rRdLFC b₀ P₀ p₀ top
  rRdLT : ∀ b₀ : Bool, rRdLTC b₀ P₀ p₀ top
  rRound : ∀ b₀ : Bool, rRoundC b₀ P₀ p₀ top
  rLine : ∀ b₀ : Bool, rLineC b₀ P₀ p₀ top
  rC1E : ∀ b₀ : Bool, rC1EC b₀ P₀ p₀ top
  rC1F : ∀ b₀ : Bool, rC1FC b₀ P₀ p₀ top
  rC1T : ∀ b₀ : Bool, rC1TC b₀ P₀ p₀ top
  rC1B2 : ∀ b₀ : Bool, rC1BC2 b₀ P₀ p₀ top
  rC1B3 : rC1BC3 P₀ p₀ top
  rPuE : ∀ b₀ : Bool, rPuEC b₀ P₀ p₀ top
  rPuF : ∀ b₀ : Bool, rPuFC b₀ P₀ p₀ top
  rPuT : ∀ b₀ : Bool, rPuTC b₀ P₀ p₀ top
  rOnE : ∀ b₀ : Bool, rOnEC b₀ P₀ p₀ top
  rOnT0 : ∀ b₀ : Bool, rOnT0C b₀ P₀ p₀ top
  rOnT1 : ∀ b₀ : Bool, rOnT1C b₀ P₀ p₀ top
  rOnT2 : ∀ b₀ : Bool, rOnT2C b₀ P₀ p₀ top
  rOnT3 : ∀ b₀ : Bool, rOnT3C b₀ P₀ p₀ top
  rOnT4 : ∀ b₀ : Bool, rOnT4C b₀ P₀ p₀ top
  rOnT5 : ∀ b₀ : Bool, rOnT5C b₀ P₀ p₀ top
  rOnF0 : ∀ b₀ : Bool, rOnF0C b₀ P₀ p₀ top
  rOnF1 : ∀ b₀ : Bool, rOnF1C b₀ P₀ p₀ top
  rOne : ∀ b₀ : Bool, rOneC b₀ P₀ p₀ top
  rTwE : ∀ b₀ : Bool, rTwEC b₀ P₀ p₀ top
  rTwT0 : ∀ b₀ : Bool, rTwT0C b₀ P₀ p₀ top
  rTwT1 : ∀ b₀ : Bool, rTwT1C b₀ P₀ p₀ top
  rTwT2 : ∀ b₀ : Bool, rTwT2C b₀ P₀ p₀ top
  rTwT3 : ∀ b₀ : Bool, rTwT3C b₀ P₀ p₀ top
  rTwT4 : ∀ b₀ : Bool, rTwT4C b₀ P₀ p₀ top
  rTwT5 : ∀ b₀ : Bool, rTwT5C b₀ P₀ p₀ top
  rTwF0 : ∀ b₀ : Bool, rTwF0C b₀ P₀ p₀ top
  rTwF1 : ∀ b₀ : Bool, rTwF1C b₀ P₀ p₀ top
  rTwo : ∀ b₀ : Bool, rTwoC b₀ P₀ p₀ top
  rNxB : ∀ b₀ : Bool, rNxBC b₀ P₀ p₀ top
  rLs : ∀ b₀ : Bool, rLsC b₀ P₀ p₀ top
  rLxE : ∀ b₀ : Bool, rLxEC b₀ P₀ p₀ top
  rLxB : ∀ b₀ : Bool, rLxBC b₀ P₀ p₀ top
  rPlT0 : ∀ b₀ : Bool, rPlT0C b₀ P₀ p₀ top
  rPlU0 : ∀ b₀ : Bool, rPlU0C b₀ P₀ p₀ top
  rPlT1 : ∀ b₀ : Bool, rPlT1C b₀ P₀ p₀ top
  rPlU1 : ∀ b₀ : Bool, rPlU1C b₀ P₀ p₀ top
  rPlT2 : ∀ b₀ : Bool, rPlT2C b₀ P₀ p₀ top
  rPlU2 : ∀ b₀ : Bool, rPlU2C b₀ P₀ p₀ top
  rPlT3 : ∀ b₀ : Bool, rPlT3C b₀ P₀ p₀ top
  rPlU3 : ∀ b₀ : Bool, rPlU3C b₀ P₀ p₀ top
  rPlT4 : ∀ b₀ : Bool, rPlT4C b₀ P₀ p₀ top
  rPlU4 : ∀ b₀ : Bool, rPlU4C b₀ P₀ p₀ top
  rPlT5 : ∀ b₀ : Bool, rPlT5C b₀ P₀ p₀ top
  rPlU5 : ∀ b₀ : Bool, rPlU5C b₀ P₀ p₀ top
  rPlF0 : ∀ b₀ : Bool, rPlF0C b₀ P₀ p₀ top
  rPlF1 : ∀ b₀ : Bool, rPlF1C b₀ P₀ p₀ top
  rMinA : ∀ b₀ : Bool, rMinAC b₀ P₀ p₀ top
  rMinB : ∀ b₀ : Bool, rMinBC b₀ P₀ p₀ top
  rPln : ∀ b₀ : Bool, rPlnC b₀ P₀ p₀ top
  rRep0 : ∀ b₀ : Bool, rRep0C b₀ P₀ p₀ top
  rRep1 : ∀ b₀ : Bool, rRep1C b₀ P₀ p₀ top
  rRep2 : ∀ b₀ : Bool, rRep2C b₀ P₀ p₀ top
  rRep3 : ∀ b₀ : Bool, rRep3C b₀ P₀ p₀ top
  rL0E : ∀ b₀ : Bool, rL0EC b₀ P₀ p₀ top
  rL0F : ∀ b₀ : Bool, rL0FC b₀ P₀ p₀ top
  rL0T : ∀ b₀ : Bool, rL0TC b₀ P₀ p₀ top
  rL0B2 : ∀ b₀ : Bool, rL0BC2 b₀ P₀ p₀ top
  rL0B3 : rL0BC3 P₀ p₀ top
  rL1E : ∀ b₀ : Bool, rL1EC b₀ P₀ p₀ top
  rL1F : ∀ b₀ : Bool, rL1FC b₀ P₀ p₀ top
  rL1T : ∀ b₀ : Bool, rL1TC b₀ P₀ p₀ top
  rL1B2 : ∀ b₀ : Bool, rL1BC2 b₀ P₀ p₀ top
  rL1B3 : rL1BC3 P₀ p₀ top
  rL2E : ∀ b₀ : Bool, rL2EC b₀ P₀ p₀ top
  rL2F : ∀ b₀ : Bool, rL2FC b₀ P₀ p₀ top
  rL2T : ∀ b₀ : Bool, rL2TC b₀ P₀ p₀ top
  rL2B2 : ∀ b₀ : Bool, rL2BC2 b₀ P₀ p₀ top
  rL2B3 : rL2BC3 P₀ p₀ top
  rL3E : ∀ b₀ : Bool, rL3EC b₀ P₀ p₀ top
  rL3F : ∀ b₀ : Bool, rL3FC b₀ P₀ p₀ top
  rL3T : ∀ b₀ : Bool, rL3TC b₀ P₀ p₀ top
  rL3B2 : ∀ b₀ : Bool, rL3BC2 b₀ P₀ p₀ top
  rL3B3 : rL3BC3 P₀ p₀ top
  rL4E : ∀ b₀ : Bool, rL4EC b₀ P₀ p₀ top
  rL4F : ∀ b₀ : Bool, rL4FC b₀ P₀ p₀ top
  rL4T : ∀ b₀ : Bool, rL4TC b₀ P₀ p₀ top
  rL4B2 : ∀ b₀ : Bool, rL4BC2 b₀ P₀ p₀ top
  rL4B3 : rL4BC3 P₀ p₀ top
  rL5E : ∀ b₀ : Bool, rL5EC b₀ P₀ p₀ top
  rL5F : ∀ b₀ : Bool, rL5FC b₀ P₀ p₀ top
  rL5T : ∀ b₀ : Bool, rL5TC b₀ P₀ p₀ top
  rL5B2 : ∀ b₀ : Bool, rL5BC2 b₀ P₀ p₀ top
  rL5B3 : rL5BC3 P₀ p₀ top
  rT1_0 : ∀ b₀ : Bool, rT1_0C b₀ P₀ p₀ top
  rT1_1 : ∀ b₀ : Bool, rT1_1C b₀ P₀ p₀ top
  rT1_2 : ∀ b₀ : Bool, rT1_2C b₀ P₀ p₀ top
  rT1_3 : ∀ b₀ : Bool, rT1_3C b₀ P₀ p₀ top
  rT1_4 : ∀ b₀ : Bool, rT1_4C b₀ P₀ p₀ top
  rT1_5 : ∀ b₀ : Bool, rT1_5C b₀ P₀ p₀ top
  rT2_0 : ∀ b₀ : Bool, rT2_0C b₀ P₀ p₀ top
  rT2_1 : ∀ b₀ : Bool, rT2_1C b₀ P₀ p₀ top
  rT3 : ∀ b₀ : Bool, rT3C b₀ P₀ p₀ top
  rLaw : ∀ b₀ : Bool, rLawC b₀ P₀ p₀ top
  rDLenK : ∀ b₀ : Bool, rDLenKC b₀ P₀ p₀ top
  rDPopK : ∀ b₀ : Bool, rDPopKC b₀ P₀ p₀ top
  rDAppK : ∀ b₀ : Bool, rDAppKC b₀ P₀ p₀ top
  rLiEK : ∀ b₀ : Bool, rLiEKC b₀ P₀ p₀ top
  rLxTK : ∀ b₀ : Bool, rLxTKC b₀ P₀ p₀ top
end Mine
end
end
section
open PySem PySem.W PySem.W.X PyProof.Rows PySem.Calls
noncomputable section
namespace Mine
section
variable {prog : Program} {w : World} {top : KT}
theorem rcs_nil : RcsOk prog w top .nil := trivial
theorem rcs_cons {f : Code → Rc} {rest : Ov → Rcs} (h1 : ∀ c, Spec prog w top (f c)) (h2 : ∀ x, RcsOk prog w top (rest x)) : RcsOk prog w top (.cons f rest) := ⟨h1, h2⟩
/-- a contract told in other words -/
theorem conv {r r' : Rc} (h : Spec prog w top r) (hc : r'.code = r.code) (hl : r'.lvl ≤ r.lvl) (hf : r.fr = none ∨ r.fr = r'.fr) (hp : ∀ q ∈ r.pre, q ∈ r'.pre) (hnd : (r'.pre.map (·.1)).Nodup → (r.pre.map (·.1)).Nodup)
    (hx : (r'.pre.map (·.1)).Nodup → ∀ x, ∃ y : Ov, r'.res y = r.res x ∧ y.n 0 = x.n 0 ∧ y.n 1 = x.n 1 ∧ r'.new y = r.new x ∧ (r'.post y).length = r'.pre.length ∧
      ∀ q ∈ r'.pre.zip (r'.post y), (∃ q' ∈ r.pre.zip (r.post x), q'.1.1 = q.1.1 ∧ q'.2 = q.2) ∨ (q.1.1 ∉ r.pre.map (·.1) ∧ q.2 = q.1.2)) : Spec prog w top r' := by
  intro A fA ffr s tp hpre nd
  have fr : FrOk A r.fr := by
    rcases hf with e | e
    · intro l hl; rw [e] at hl; cases hl
    · rw [e]; exact ffr
  rw [hc]
  refine codeAny_mono (h A (fA.le hl) fr s tp (fun q hq => hpre q (hp q hq)) (hnd nd)) fun res s' hs => ?_
  obtain ⟨x, e1, e2, e3, e4, e5, a1, a2, a3, a4, a5, a6, a7⟩ := hs
  obtain ⟨y, f1, f2, f3, f4, f5, f6⟩ := hx nd x
  refine ⟨y, by rw [e1, f1], e2, e3, e4, by rw [f3]; exact e5, by rw [f2]; exact a1, by rw [f2]; exact a2, f5, fun q hq => ?_, fun b ob e nb => a5 b ob e fun q hq => nb q (hp q hq), by rw [f4]; exact a6, by rw [f4]; exact a7⟩
  rcases f6 q hq with ⟨q', hq', g1, g2⟩ | ⟨g1, g2⟩
  · rw [← g1, ← g2]; exact a4 q' hq'
  · rw [g2]
    have hm : q.1 ∈ r'.pre := (List.of_mem_zip (show (q.1, q.2) ∈ _ from hq)).1
    exact a5 _ _ (hpre _ hm).1 fun q' hq' e => g1 (by rw [← e]; exact List.mem_map_of_mem hq')
/-- the same objects, another telling of what comes behind -/
theorem conv0 {r r' : Rc} (h : Spec prog w top r) (hc : r'.code = r.code) (hl : r'.lvl ≤ r.lvl) (hf : r.fr = none ∨ r.fr = r'.fr) (hp : r'.pre = r.pre)
    (hx : ∀ x, ∃ y : Ov, r'.res y = r.res x ∧ y.n 0 = x.n 0 ∧ y.n 1 = x.n 1 ∧ r'.new y = r.new x ∧ r'.post y = r.post x) : Spec prog w top r' := by
  intro A fA ffr s tp hpre nd
  have fr : FrOk A r.fr := by
    rcases hf with e | e
    · intro l hl; rw [e] at hl; cases hl
    · rw [e]; exact ffr
  rw [hp] at hpre nd
  rw [hc]
  refine codeAny_mono (h A (fA.le hl) fr s tp hpre nd) fun res s' hs => ?_
  obtain ⟨x, e1, e2, e3, e4, e5, a1, a2, a3, a4, a5, a6, a7⟩ := hs
  obtain ⟨y, f1, f2, f3, f4, f5⟩ := hx x
  refine ⟨y, by rw [e1, f1], e2, e3, e4, by rw [f3]; exact e5, by rw [f2]; exact a1, by rw [f2]; exact a2, by rw [f5, hp]; exact a3, ?_, by rw [hp]; exact a5, by rw [f4]; exact a6, by rw [f4]; exact a7⟩
  rw [f5, hp]; exact a4
end
/-! words, lists of words, lists of ints -/
noncomputable def pw (k : Nat) : Str := match k with | 0 => ⟨⟨w0⟩⟩ | 1 => ⟨⟨w1⟩⟩ | 2 => ⟨⟨w2⟩⟩ | 3 => ⟨⟨w3⟩⟩ | _ => bar
noncomputable def pq (k : Nat) : List Nat := match k with | 0 => q0 | 1 => q1 | 2 => q2 | _ => q3
noncomputable def pwl (k : Nat) : List Nat := match k with | 0 => w0 | 1 => w1 | 2 => w2 | 3 => w3 | _ => [124]
theorem pw_eq (k : Nat) : pw k = ⟨⟨pwl k⟩⟩ := by
  unfold pw pwl
  split <;> rfl
inductive IsW : List Nat → List Value → Prop
  | nil : IsW [] []
  | cons {k : Nat} {ws : List Nat} {xs : List Value} (t : Nat) (h : IsW ws xs) : IsW (k :: ws) (.str (pw k) t :: xs)
noncomputable def wt : List Nat → (Nat → Nat) → List (Str × Nat)
  | [], _ => []
  | k :: ws, T => (pw k, T 0) :: wt ws fun i => T (i + 1)
noncomputable def wv (ws : List Nat) (T : Nat → Nat) : List Value := txts (wt ws T)
theorem IsW.length {ws : List Nat} {xs : List Value} (h : IsW ws xs) : xs.length = ws.length := by
  induction h with
  | nil => rfl
  | cons t h ih => simp [ih]
theorem IsW.append {ws vs : List Nat} {xs ys : List Value} (h : IsW ws xs) (g : IsW vs ys) : IsW (ws ++ vs) (xs ++ ys) := by
  induction h with
  | nil => exact g
  | cons t h ih => exact .cons t ih
theorem IsW.one (k t : Nat) : IsW [k] [.str (pw k) t] := .cons t .nil
theorem IsW.of {ws : List Nat} {xs : List Value} (h : IsW ws xs) : ∃ T, xs = wv ws T := by
  induction h with
  | nil => exact ⟨fun _ => 0, rfl⟩
  | cons t h ih =>
    obtain ⟨T, rfl⟩ := ih
    exact ⟨fun i => match i with | 0 => t | i + 1 => T i, rfl⟩
theorem isW_wv : ∀ (ws : List Nat) (T : Nat → Nat), IsW ws (wv ws T)
  | [], _ => .nil
  | k :: ws, T => .cons _ (isW_wv ws _)
theorem IsW.at {ws : List Nat} {xs : List Value} (h : IsW ws xs) : ∀ {i k : Nat}, ws[i]? = some k → ∃ t, xs[i]? = some (.str (pw k) t) := by
  induction h with
  | nil => intro i k e; simp at e
  | cons t h ih =>
    intro i k e
    cases i with
    | zero => simp at e; subst e; exact ⟨t, rfl⟩
    | succ i => simpa using ih (by simpa using e)
theorem IsW.split {ws vs : List Nat} : ∀ {zs : List Value}, IsW (ws ++ vs) zs → ∃ xs ys, zs = xs ++ ys ∧ IsW ws xs ∧ IsW vs ys := by
  induction ws with
  | nil => intro zs h; exact ⟨[], zs, rfl, .nil, h⟩
  | cons k ws ih =>
    intro zs h
    cases h with
    | cons t h =>
      obtain ⟨xs, ys, rfl, h1, h2⟩ := ih h
      exact ⟨_, ys, rfl, .cons t h1, h2⟩
theorem IsW.reverse {ws : List Nat} {xs : List Value} (h : IsW ws xs) : IsW ws.reverse xs.reverse := by
  induction h with
  | nil => exact .nil
  | cons t h ih => simp only [List.reverse_cons]; exact ih.append (.one _ _)
inductive IsI : List Nat → List Value → Prop
  | nil : IsI [] []
  | cons {k : Nat} {ws : List Nat} {xs : List Value} (t : Nat) (h : IsI ws xs) : IsI (k :: ws) (.int (k : Int) t :: xs)
noncomputable def iv : List Nat → (Nat → Nat) → List Value
  | [], _ => []
  | k :: ws, T => .int (k : Int) (T 0) :: iv ws fun i => T (i + 1)
theorem IsI.length {ws : List Nat} {xs : List Value} (h : IsI ws xs) : xs.length = ws.length := by
  induction h with
  | nil => rfl
  | cons t h ih => simp [ih]
theorem IsI.append {ws vs : List Nat} {xs ys : List Value} (h : IsI ws xs) (g : IsI vs ys) : IsI (ws ++ vs) (xs ++ ys) := by
  induction h with
  | nil => exact g
  | cons t h ih => exact .cons t ih
theorem IsI.one (k t : Nat) : IsI [k] [.int (k : Int) t] := .cons t .nil
theorem IsI.of {ws : List Nat} {xs : List Value} (h : IsI ws xs) : ∃ T, xs = iv ws T := by
  induction h with
  | nil => exact ⟨fun _ => 0, rfl⟩
  | cons t h ih =>
    obtain ⟨T, rfl⟩ := ih
    exact ⟨fun i => match i with | 0 => t | i + 1 => T i, rfl⟩
theorem isI_iv : ∀ (ws : List Nat) (T : Nat → Nat), IsI ws (iv ws T)
  | [], _ => .nil
  | k :: ws, T => .cons _ (isI_iv ws _)
theorem IsI.at {ws : List Nat} {xs : List Value} (h : IsI ws xs) : ∀ {i k : Nat}, ws[i]? = some k → ∃ t, xs[i]? = some (.int (k : Int) t) := by
  induction h with
  | nil => intro i k e; simp at e
  | cons t h ih =>
    intro i k e
    cases i with
    | zero => simp at e; subst e; exact ⟨t, rfl⟩
    | succ i => simpa using ih (by simpa using e)
theorem IsI.take {ws : List Nat} {xs : List Value} (h : IsI ws xs) (n : Nat) : IsI (ws.take n) (xs.take n) := by
  induction h generalizing n with
  | nil => simp; exact .nil
  | cons t h ih => cases n with
    | zero => exact .nil
    | succ n => exact .cons t (ih n)
theorem IsI.drop {ws : List Nat} {xs : List Value} (h : IsI ws xs) (n : Nat) : IsI (ws.drop n) (xs.drop n) := by
  induction h generalizing n with
  | nil => simp; exact .nil
  | cons t h ih => cases n with
    | zero => exact .cons t h
    | succ n => exact ih n
end Mine
end
end
section
open PySem PySem.W PySem.W.X PyProof.Rows PySem.Calls
noncomputable section
namespace Mine
/-- the signs cs lie at p -/
noncomputable def Has (b : Str) (p : Nat) (cs : List Nat) : Prop := ∀ i c, cs[i]? = some c → b.cps[p + i]? = some c
theorem Has.head {b : Str} {p c : Nat} {cs : List Nat} (h : Has b p (c :: cs)) : b.cps[p]? = some c := by simpa using h 0 c rfl
theorem Has.tail {b : Str} {p c : Nat} {cs : List Nat} (h : Has b p (c :: cs)) : Has b (p + 1) cs := fun i d hi => by
  have := h (i + 1) d (by simpa using hi)
  rw [show p + 1 + i = p + (i + 1) by omega]; exact this
section
variable {prog : Program} {w : World} {top : KT} (T : Top top prog w) (K : Checks w.params prog top)
include T K
theorem sRead (x dx : Addr) (hh : Nat → Int) (kt : Nat → Nat) (b : Str) (tb p tp t1 c : Nat) (h1 : b.cps[p]? = some c) (h2 : 2 ≤ b.cps.size) (h3 : b.cps.size < 1000) : Spec prog w top (rRead x dx hh kt b tb p tp t1 c) := by
  have hlt := (Array.getElem?_eq_some_iff.mp h1).1
  by_cases h : p + 1 < b.cps.size
  · refine spec_chk T _ rfl _ _ _ _ ?_ _ _ _ _ _ (by exact Nat.le_of_ble_eq_true rfl) (by rfl) (fun _ => by rfl) (by decide) (K.rReadMid _ x dx hh kt b tb p tp t1 c)
    intro m tk
    exact rcs_cons (fun _ => sLenStr _ _ _ _ _ h3) fun _ => rcs_cons (fun _ => sGe _ _ _ _ _ _ _ _ (decide_eq_false (by simp only [Int.ofNat_eq_natCast]; omega))) fun _ =>
      rcs_cons (fun _ => sLt _ _ _ _ _ _ _ _ (decide_eq_true (by simp only [Int.ofNat_eq_natCast]; omega))) fun _ => rcs_cons (fun _ => sSign _ _ _ _ _ _ _ _ _ _ _ rfl h1 h2) fun _ => rcs_nil
  · have hs : b.cps.size = p + 1 := by omega
    have e : rReadLast x dx hh kt b tb p tp t1 c = rRead x dx hh kt b tb p tp t1 c := by
      unfold rReadLast rRead
      rw [hs]
    rw [← e]
    refine spec_chk T _ rfl _ _ _ _ ?_ _ _ _ _ _ (by exact Nat.le_of_ble_eq_true rfl) (by rfl) (fun _ => by rfl) (by decide) (K.rReadLast _ x dx hh kt b tb p tp t1 c)
    intro m tk
    exact rcs_cons (fun _ => sLenStr _ _ _ _ _ h3) fun _ => rcs_cons (fun _ => sGe _ _ _ _ _ _ _ _ (decide_eq_false (by simp only [Int.ofNat_eq_natCast]; omega))) fun _ =>
      rcs_cons (fun _ => sLt _ _ _ _ _ _ _ _ (decide_eq_false (by simp only [Int.ofNat_eq_natCast]; omega))) fun _ => rcs_cons (fun _ => sSign _ _ _ _ _ _ _ _ _ _ _ (by rw [hs]; rfl) h1 h2) fun _ => rcs_nil
theorem sEof (x dx : Addr) (hh : Nat → Int) (kt : Nat → Nat) (b : Str) (tb p tp t1 : Nat) (h1 : b.cps.size ≤ p) (h3 : b.cps.size < 1000) : Spec prog w top (rEof x dx hh kt b tb p tp t1) := by
  refine spec_chk T _ rfl _ _ _ _ ?_ _ _ _ _ _ (by exact Nat.le_of_ble_eq_true rfl) (by rfl) (fun _ => by rfl) (by decide) (K.rEof _ x dx hh kt b tb p tp t1)
  intro m tk
  exact rcs_cons (fun _ => sLenStr _ _ _ _ _ h3) fun _ => rcs_cons (fun _ => sGe _ _ _ _ _ _ _ _ (decide_eq_true (by simp only [Int.ofNat_eq_natCast]; omega))) fun _ => rcs_nil
theorem rdR_ok {y dy : Addr} {hh : Nat → Int} {kt : Nat → Nat} {b : Str} {tb : Nat} {Kr : Nat → Nat → Rcs} (h2 : 2 ≤ b.cps.size) (h3 : b.cps.size < 1000) :
    ∀ {cs : List Nat} {p tp : Nat}, Has b p cs → (∀ tp, RcsOk prog w top (Kr (p + cs.length) tp)) → RcsOk prog w top (rdR y dy hh kt b tb Kr cs p tp)
  | [], p, tp, _, hk => hk tp
  | c :: cs, p, tp, h, hk => rcs_cons (fun _ => sRead T K _ _ _ _ _ _ _ _ _ _ h.head h2 h3) fun z => rdR_ok h2 h3 h.tail fun tp => by
      have := hk tp
      rw [show p + (c :: cs).length = p + 1 + cs.length by simp; omega] at this
      exact this
/-- a word that is not the text's last -/
theorem sTok (k : Nat) (hk : k < 4) (x dx y dy pb fs : Addr) (hx hy : Nat → Int) (kx ky vt : Nat → Nat) (b : Str) (tb p tp ts tt : Nat) (h : Has b p (pq k ++ [32])) (h2 : 2 ≤ b.cps.size) (h3 : b.cps.size < 1000) :
    Spec prog w top (rTok x dx y dy pb fs hx hy kx ky vt b tb p tp ts tt (pq k) (pwl k)) := by
  have hl : Has b p (pq k) := fun i c hi => h i c (by rw [List.getElem?_append_left (by have := (List.getElem?_eq_some_iff.mp hi).1; exact this)]; exact hi)
  have he : b.cps[p + (pq k).length]? = some 32 := h _ _ (by simp)
  have hR : ∀ m tk, RcsOk prog w top (rTokR x dx y dy pb fs hx hy kx ky vt b tb p tp ts tt (pq k) (pwl k) m tk) := fun m tk =>
    rdR_ok T K h2 h3 hl fun tp => rcs_cons (fun _ => sRead T K _ _ _ _ _ _ _ _ _ _ he h2 h3) fun z => rcs_cons (fun _ => sInTup _ _ _ _ _ _ _ _ _ _ _ (by decide)) fun _ => rcs_nil
  match k, hk with
  | 0, _ => exact spec_chk T _ rfl _ _ _ _ hR _ _ _ _ _ (by exact Nat.le_of_ble_eq_true rfl) (by rfl) (fun _ => by rfl) (by decide) (K.rTok0 _ x dx y dy pb fs hx hy kx ky vt b tb p tp ts tt)
  | 1, _ => exact spec_chk T _ rfl _ _ _ _ hR _ _ _ _ _ (by exact Nat.le_of_ble_eq_true rfl) (by rfl) (fun _ => by rfl) (by decide) (K.rTok1 _ x dx y dy pb fs hx hy kx ky vt b tb p tp ts tt)
  | 2, _ => exact spec_chk T _ rfl _ _ _ _ hR _ _ _ _ _ (by exact Nat.le_of_ble_eq_true rfl) (by rfl) (fun _ => by rfl) (by decide) (K.rTok2 _ x dx y dy pb fs hx hy kx ky vt b tb p tp ts tt)
  | 3, _ => exact spec_chk T _ rfl _ _ _ _ hR _ _ _ _ _ (by exact Nat.le_of_ble_eq_true rfl) (by rfl) (fun _ => by rfl) (by decide) (K.rTok3 _ x dx y dy pb fs hx hy kx ky vt b tb p tp ts tt)
/-- the text's last word -/
theorem sTokE (k : Nat) (hk : k < 4) (x dx y dy pb fs : Addr) (hx hy : Nat → Int) (kx ky vt : Nat → Nat) (b : Str) (tb p tp ts tt : Nat) (h : Has b p (pq k)) (he : b.cps.size ≤ p + (pq k).length) (h2 : 2 ≤ b.cps.size) (h3 : b.cps.size < 1000) :
    Spec prog w top (rTokE x dx y dy pb fs hx hy kx ky vt b tb p tp ts tt (pq k) (pwl k)) := by
  have hR : ∀ m tk, RcsOk prog w top (rTokER x dx y dy pb fs hx hy kx ky vt b tb p tp ts tt (pq k) (pwl k) m tk) := fun m tk =>
    rdR_ok T K h2 h3 h fun tp => rcs_cons (fun _ => sEof T K _ _ _ _ _ _ _ _ _ he h3) fun z => rcs_cons (fun _ => sInTup _ _ _ _ _ _ _ _ _ _ _ (by decide)) fun _ => rcs_nil
  match k, hk with
  | 0, _ => exact spec_chk T _ rfl _ _ _ _ hR _ _ _ _ _ (by exact Nat.le_of_ble_eq_true rfl) (by rfl) (fun _ => by rfl) (by decide) (K.rTokE0 _ x dx y dy pb fs hx hy kx ky vt b tb p tp ts tt)
  | 1, _ => exact spec_chk T _ rfl _ _ _ _ hR _ _ _ _ _ (by exact Nat.le_of_ble_eq_true rfl) (by rfl) (fun _ => by rfl) (by decide) (K.rTokE1 _ x dx y dy pb fs hx hy kx ky vt b tb p tp ts tt)
  | 2, _ => exact spec_chk T _ rfl _ _ _ _ hR _ _ _ _ _ (by exact Nat.le_of_ble_eq_true rfl) (by rfl) (fun _ => by rfl) (by decide) (K.rTokE2 _ x dx y dy pb fs hx hy kx ky vt b tb p tp ts tt)
  | 3, _ => exact spec_chk T _ rfl _ _ _ _ hR _ _ _ _ _ (by exact Nat.le_of_ble_eq_true rfl) (by rfl) (fun _ => by rfl) (by decide) (K.rTokE3 _ x dx y dy pb fs hx hy kx ky vt b tb p tp ts tt)
theorem sTokN (x dx y dy pb fs : Addr) (hx hy : Nat → Int) (kx ky vt : Nat → Nat) (b : Str) (tb p tp tt : Nat) (he : b.cps.size ≤ p) (h3 : b.cps.size < 1000) : Spec prog w top (rTokN x dx y dy pb fs hx hy kx ky vt b tb p tp tt) := by
  refine spec_chk T _ rfl _ _ _ _ ?_ _ _ _ _ _ (by exact Nat.le_of_ble_eq_true rfl) (by rfl) (fun _ => by rfl) (by decide) (K.rTokN _ x dx y dy pb fs hx hy kx ky vt b tb p tp tt)
  intro m tk
  exact rcs_cons (fun _ => sEof T K _ _ _ _ _ _ _ _ _ he h3) fun _ => rcs_nil
theorem sTokZ (x dx y dy pb fs : Addr) (hx hy : Nat → Int) (kx ky vt : Nat → Nat) (b : Str) (tb p tp ts tt : Nat) (he : b.cps.size ≤ p) (h3 : b.cps.size < 1000) : Spec prog w top (rTokZ x dx y dy pb fs hx hy kx ky vt b tb p tp ts tt) := by
  refine spec_chk T _ rfl _ _ _ _ ?_ _ _ _ _ _ (by exact Nat.le_of_ble_eq_true rfl) (by rfl) (fun _ => by rfl) (by decide) (K.rTokZ _ x dx y dy pb fs hx hy kx ky vt b tb p tp ts tt)
  intro m tk
  exact rcs_cons (fun _ => sEof T K _ _ _ _ _ _ _ _ _ he h3) fun _ => rcs_nil
end
end Mine
end
end
section
open PySem PySem.W PySem.W.X PyProof.Rows PySem.Calls
noncomputable section
namespace Mine
/-- pend: the words of the text from p on -/
noncomputable def Txt (b : Str) : Nat → List Nat → Prop
  | p, [] => b.cps.size = p
  | p, [k] => k < 4 ∧ Has b p (pq k) ∧ b.cps.size = p + (pq k).length
  | p, k :: k' :: r => k < 4 ∧ Has b p (pq k ++ [32]) ∧ Txt b (p + (pq k).length + 1) (k' :: r)
noncomputable def tl : List Nat → Nat
  | [] => 0
  | [k] => (pq k).length
  | k :: k' :: r => (pq k).length + 1 + tl (k' :: r)
theorem txt_pos {b : Str} : ∀ {p : Nat} {pend : List Nat}, Txt b p pend → p = b.cps.size - tl pend
  | p, [], h => by have h' : b.cps.size = p := h; simp [tl, h']
  | p, [k], h => by
    have h' : b.cps.size = p + (pq k).length := h.2.2
    simp [tl]; omega
  | p, k :: k' :: r, h => by
    have h' := txt_pos h.2.2
    have : p + (pq k).length + 1 + tl (k' :: r) ≤ b.cps.size ∨ b.cps.size < tl (k' :: r) := by omega
    have h2 : tl (k' :: r) + (p + (pq k).length + 1) ≤ b.cps.size := by
      have key : ∀ {p : Nat} {pend : List Nat}, Txt b p pend → p + tl pend ≤ b.cps.size := by
        intro p pend
        induction pend generalizing p with
        | nil => intro h; have h' : b.cps.size = p := h; simp [tl, h']
        | cons a l ih =>
          cases l with
          | nil => intro h; have h' : b.cps.size = p + (pq a).length := h.2.2; simp [tl]; omega
          | cons a' l =>
            intro h
            have := ih h.2.2
            simp only [tl]; omega
      have := key h.2.2
      omega
    simp only [tl]; omega
/-- a lexer's state, its text's rest pend -/
noncomputable def LexOk (b : Str) (v : LV) (pend : List Nat) : Prop :=
  ∃ (tb : Nat) (hy : Nat → Int) (ky : Nat → Nat) (p tp tt n : Nat), v.t = emptyT tt ∧ v.yd = sioD hy ky b tb p tp ∧ v.sp = (n : Int) ∧ Txt b p pend ∧ ((∃ ts, v.s = st1 32 ts) ∨ (pend = [] ∧ v.s = .none))
/-- the same, told by numbers -/
noncomputable def lexD (b : Str) (P pend : List Nat) (M : MM) : LV :=
  { s := match pend with
      | [] => match M 0 0 with | 0 => .none | t + 1 => st1 32 t
      | _ => st1 32 (M 0 0), t := emptyT (M 0 1), yd := sioD (fun i => (M 3 i : Int) - (M 4 i : Int)) (M 2) b (M 0 2) (b.cps.size - tl pend) (M 0 3), sp := (M 0 4 : Int), xs := wv P (M 1) }
theorem lexD_ok {b : Str} {P pend : List Nat} {M : MM} (h : Txt b (b.cps.size - tl pend) pend) : LexOk b (lexD b P pend M) pend := by
  refine ⟨M 0 2, fun i => (M 3 i : Int) - (M 4 i : Int), M 2, b.cps.size - tl pend, M 0 3, M 0 1, M 0 4, rfl, rfl, rfl, h, ?_⟩
  cases pend with
  | nil =>
    show (∃ ts, (match M 0 0 with | 0 => Value.none | t + 1 => st1 32 t) = st1 32 ts) ∨ ([] = [] ∧ (match M 0 0 with | 0 => Value.none | t + 1 => st1 32 t) = .none)
    cases M 0 0 with
    | zero => exact .inr ⟨rfl, rfl⟩
    | succ t => exact .inl ⟨t, rfl⟩
  | cons k r => exact .inl ⟨_, rfl⟩
theorem int_split (i : Int) : ∃ a b : Nat, i = (a : Int) - (b : Int) := by
  cases i with
  | ofNat n => exact ⟨n, 0, by simp⟩
  | negSucc n => exact ⟨0, n + 1, by omega⟩
theorem lexD_of {b : Str} {v : LV} {P pend : List Nat} (h : LexOk b v pend) (hx : IsW P v.xs) : ∃ M, v = lexD b P pend M := by
  obtain ⟨s, t, yd, sp, xs⟩ := v
  obtain ⟨tb, hy, ky, p, tp, tt, n, e1, e2, e3, h4, h5⟩ := h
  dsimp only at e1 e2 e3 h5 hx
  subst e1 e2 e3
  obtain ⟨T, rfl⟩ := hx.of
  have hp := txt_pos h4
  have ha := fun i => (int_split (hy i)).choose_spec
  refine ⟨fun i j => match i with
    | 0 => match j with
      | 0 => match s with | .str _ ts => (match pend with | [] => ts + 1 | _ => ts) | _ => 0
      | 1 => tt | 2 => tb | 3 => tp | _ => n
    | 1 => T j | 2 => ky j | 3 => (int_split (hy j)).choose | _ => (ha j).choose, ?_⟩
  have eh : hy = fun i => ((int_split (hy i)).choose : Int) - ((ha i).choose : Int) := funext fun i => (ha i).choose_spec
  unfold lexD
  congr 1
  · rcases h5 with ⟨ts, rfl⟩ | ⟨rfl, rfl⟩
    · cases pend <;> rfl
    · rfl
  · rw [← hp]
    show sioD hy ky b tb p tp = sioD (fun i => ((int_split (hy i)).choose : Int) - ((ha i).choose : Int)) ky b tb p tp
    rw [← eh]
section
variable {prog : Program} {w : World} {top : KT} (T : Top top prog w) (K : Checks w.params prog top)
include T K
theorem sDLen (a : Addr) (st : Int) (xs : List Value) (h : xs.length < 18) : Spec prog w top (rDLen a st xs) := by
  have hS : Spec prog w top (rDLenK a st (fun i => xs.getD i .none) xs.length) :=
    spec_chk T _ rfl _ _ _ _ (fun _ _ => rcs_nil) _ _ _ _ _ (by exact Nat.le_of_ble_eq_true rfl) (by rfl) (fun _ => by rfl) (by decide) ((K.rDLenK _ a st fun i => xs.getD i .none).at xs.length h)
  rwa [show rDLenK a st (fun i => xs.getD i .none) xs.length = rDLen a st xs from by unfold rDLenK; rw [valsV_of]] at hS
theorem sDPop (a : Addr) (st : Int) (s : Str) (t : Nat) (xs : List Value) (h : xs.length < 18) : Spec prog w top (rDPop a st s t xs) := by
  have hS : Spec prog w top (rDPopK a st s t (fun i => xs.getD i .none) xs.length) :=
    spec_chk T _ rfl _ _ _ _ (fun _ _ => rcs_nil) _ _ _ _ _ (by exact Nat.le_of_ble_eq_true rfl) (by rfl) (fun _ => by rfl) (by decide) ((K.rDPopK _ a st s t fun i => xs.getD i .none).at xs.length h)
  rwa [show rDPopK a st s t (fun i => xs.getD i .none) xs.length = rDPop a st s t xs from by unfold rDPopK; rw [valsV_of]] at hS
theorem sDApp (a : Addr) (st : Int) (s : Str) (t : Nat) (xs : List Value) (h : xs.length < 18) : Spec prog w top (rDApp a st s t xs) := by
  have hS : Spec prog w top (rDAppK a st s t (fun i => xs.getD i .none) xs.length) :=
    spec_chk T _ rfl _ _ _ _ (fun _ _ => rcs_nil) _ _ _ _ _ (by exact Nat.le_of_ble_eq_true rfl) (by rfl) (fun _ => by rfl) (by decide) ((K.rDAppK _ a st s t fun i => xs.getD i .none).at xs.length h)
  rwa [show rDAppK a st s t (fun i => xs.getD i .none) xs.length = rDApp a st s t xs from by unfold rDAppK; rw [valsV_of]] at hS
theorem sLiE (it l : Addr) (xs : List Value) (n : Nat) (h : xs.length < 24) : Spec prog w top (rLiE it l xs n xs.length) := by
  have hS : Spec prog w top (rLiEK it l n (fun i => xs.getD i .none) xs.length) :=
    spec_chk T _ rfl _ _ _ _ (fun _ _ => rcs_nil) _ _ _ _ _ (by exact Nat.le_of_ble_eq_true rfl) (by rfl) (fun _ => by rfl) (by decide) ((K.rLiEK _ it l n fun i => xs.getD i .none).at xs.length h)
  rwa [show rLiEK it l n (fun i => xs.getD i .none) xs.length = rLiE it l xs n xs.length from by unfold rLiEK; rw [valsV_of]] at hS
theorem sGetP (x dx y pb fs : Addr) (hx : Nat → Int) (kx vt : Nat → Nat) (s1 t1 : Value) (sp : Int) (s : Str) (t : Nat) (xs : List Value) (h : xs.length < 17) : Spec prog w top (rGetP x dx y pb fs hx kx vt s1 t1 sp s t xs) := by
  refine spec_chk T _ rfl _ _ _ _ ?_ _ _ _ _ _ (by exact Nat.le_of_ble_eq_true rfl) (by rfl) (fun _ => by rfl) (by decide) (K.rGetP _ x dx y pb fs hx kx vt s1 t1 sp s t xs)
  intro m tk
  exact rcs_cons (fun _ => sDLen T K _ _ _ (by simp; omega)) fun _ => rcs_cons (fun _ => sDPop T K _ _ _ _ _ (by omega)) fun _ => rcs_nil
theorem sPush (x dx y pb fs : Addr) (hx : Nat → Int) (kx vt : Nat → Nat) (s1 t1 : Value) (sp : Int) (s : Str) (t : Nat) (xs : List Value) (h : xs.length < 17) : Spec prog w top (rPush x dx y pb fs hx kx vt s1 t1 sp s t xs) := by
  refine spec_chk T _ rfl _ _ _ _ ?_ _ _ _ _ _ (by exact Nat.le_of_ble_eq_true rfl) (by rfl) (fun _ => by rfl) (by decide) (K.rPush _ x dx y pb fs hx kx vt s1 t1 sp s t xs)
  intro m tk
  exact rcs_cons (fun _ => sDApp T K _ _ _ _ _ (by omega)) fun _ => rcs_nil
theorem sGetW (x dx y dy pb fs : Addr) (hx : Nat → Int) (kx vt : Nat → Nat) (s1 t1 : Value) (yd : Obj) (S2 T2 : Zn → Value) (Y2 : Zn → Obj) (sp : Int) (wd : Str) (wt : Zn → Nat)
    (h : Spec prog w top (rTk x dx y dy pb fs hx kx vt s1 t1 yd S2 T2 Y2 (fun z => .ok (.ret (.str wd (wt z)))))) : Spec prog w top (rGetW x dx y dy pb fs hx kx vt s1 t1 yd S2 T2 Y2 sp wd wt) := by
  refine spec_chk T _ rfl _ _ _ _ ?_ _ _ _ _ _ (by exact Nat.le_of_ble_eq_true rfl) (by rfl) (fun _ => by rfl) (by decide) (K.rGetW _ x dx y dy pb fs hx kx vt s1 t1 yd S2 T2 Y2 sp wd wt)
  intro m tk
  exact rcs_cons (fun _ => h) fun _ => rcs_nil
theorem sGetN (x dx y dy pb fs : Addr) (hx : Nat → Int) (kx vt : Nat → Nat) (s1 t1 : Value) (yd : Obj) (S2 T2 : Zn → Value) (Y2 : Zn → Obj) (sp sf : Int)
    (h : Spec prog w top (rTk x dx y dy pb fs hx kx vt s1 t1 yd S2 T2 Y2 (fun z => .ok (.ret .none)))) : Spec prog w top (rGetN x dx y dy pb fs hx kx vt s1 t1 yd S2 T2 Y2 sp sf) := by
  refine spec_chk T _ rfl _ _ _ _ ?_ _ _ _ _ _ (by exact Nat.le_of_ble_eq_true rfl) (by rfl) (fun _ => by rfl) (by decide) (K.rGetN _ x dx y dy pb fs hx kx vt s1 t1 yd S2 T2 Y2 sp sf)
  intro m tk
  exact rcs_cons (fun _ => h) fun _ => rcs_nil
theorem get_pushed (X : LX) (v : LV) (s : Str) (t : Nat) (xs : List Value) (hv : v.xs = .str s t :: xs) (h : xs.length < 17) :
    Spec prog w top (rG X v (fun _ => { v with sp := v.sp + 1, xs := xs }) fun _ => .str s t) := by
  refine conv (sGetP T K X.x X.dx X.y X.pb X.fs X.hx X.kx X.vt v.s v.t v.sp s t xs h) rfl (by exact Nat.le_of_ble_eq_true rfl) (.inl rfl) ?_ ?_ ?_
  · intro q hq
    simp only [rGetP, rG, LX.at, hv, List.mem_cons, List.not_mem_nil, or_false] at hq ⊢
    rcases hq with rfl | rfl | rfl <;> simp
  · intro nd
    simp only [rGetP, rG, LX.at, List.map_cons, List.map_nil, List.nodup_cons, List.mem_cons, List.not_mem_nil, or_false, not_or, List.nodup_nil] at nd ⊢
    exact ⟨⟨nd.1.1, nd.1.2.2.2.1⟩, nd.2.1.2.2.1, not_false, trivial⟩
  · intro nd x
    refine ⟨x, rfl, rfl, rfl, rfl, rfl, fun q hq => ?_⟩
    simp only [rG, LX.at, List.map_cons, List.map_nil, List.nodup_cons, List.mem_cons, List.not_mem_nil, or_false, not_or, List.nodup_nil] at nd
    simp only [rG, LX.at, LX.of, List.zip_cons_cons, List.zip_nil_right, List.mem_cons, List.not_mem_nil, or_false] at hq
    simp only [rGetP, List.zip_cons_cons, List.zip_nil_right, List.mem_cons, List.not_mem_nil, or_false, List.map_cons, List.map_nil, exists_eq_or_imp, exists_eq_left, not_or]
    rcases hq with rfl | rfl | rfl | rfl | rfl | rfl
    · left; left; exact ⟨rfl, rfl⟩
    · left; right; left; exact ⟨rfl, rfl⟩
    · right; exact ⟨⟨fun e => nd.1.2.1 e.symm, fun e => nd.2.1.1 e.symm, nd.2.2.1.2.1⟩, rfl⟩
    · right; exact ⟨⟨fun e => nd.1.2.2.1 e.symm, fun e => nd.2.1.2.1 e.symm, nd.2.2.2.1.1⟩, rfl⟩
    · left; right; right; exact ⟨rfl, rfl⟩
    · right; exact ⟨⟨fun e => nd.1.2.2.2.2 e.symm, fun e => nd.2.1.2.2.2 e.symm, fun e => nd.2.2.2.2.1 e.symm⟩, rfl⟩
theorem sP (X : LX) (v : LV) (s : Str) (t : Nat) (h : v.xs.length < 17) : Spec prog w top (rP X v s t) := by
  refine conv (sPush T K X.x X.dx X.y X.pb X.fs X.hx X.kx X.vt v.s v.t v.sp s t v.xs h) rfl (by exact Nat.le_of_ble_eq_true rfl) (.inl rfl) ?_ ?_ ?_
  · intro q hq
    simp only [rPush, rP, LX.at, List.mem_cons, List.not_mem_nil, or_false] at hq ⊢
    rcases hq with rfl | rfl | rfl <;> simp
  · intro nd
    simp only [rPush, rP, LX.at, List.map_cons, List.map_nil, List.nodup_cons, List.mem_cons, List.not_mem_nil, or_false, not_or, List.nodup_nil] at nd ⊢
    exact ⟨⟨nd.1.1, nd.1.2.2.2.1⟩, nd.2.1.2.2.1, not_false, trivial⟩
  · intro nd x
    refine ⟨x, rfl, rfl, rfl, rfl, rfl, fun q hq => ?_⟩
    simp only [rP, LX.at, List.map_cons, List.map_nil, List.nodup_cons, List.mem_cons, List.not_mem_nil, or_false, not_or, List.nodup_nil] at nd
    simp only [rP, LX.at, LX.of, LV.push, List.zip_cons_cons, List.zip_nil_right, List.mem_cons, List.not_mem_nil, or_false] at hq
    simp only [rPush, List.zip_cons_cons, List.zip_nil_right, List.mem_cons, List.not_mem_nil, or_false, List.map_cons, List.map_nil, exists_eq_or_imp, exists_eq_left, not_or]
    rcases hq with rfl | rfl | rfl | rfl | rfl | rfl
    · left; left; exact ⟨rfl, rfl⟩
    · left; right; left; exact ⟨rfl, rfl⟩
    · right; exact ⟨⟨fun e => nd.1.2.1 e.symm, fun e => nd.2.1.1 e.symm, nd.2.2.1.2.1⟩, rfl⟩
    · right; exact ⟨⟨fun e => nd.1.2.2.1 e.symm, fun e => nd.2.1.2.1 e.symm, nd.2.2.2.1.1⟩, rfl⟩
    · left; right; right; exact ⟨rfl, rfl⟩
    · right; exact ⟨⟨fun e => nd.1.2.2.2.2 e.symm, fun e => nd.2.1.2.2.2 e.symm, fun e => nd.2.2.2.2.1 e.symm⟩, rfl⟩
end
end Mine
end
end
section
open PySem PySem.W PySem.W.X PyProof.Rows PySem.Calls
noncomputable section
namespace Mine
section
variable {prog : Program} {w : World} {top : KT} (T : Top top prog w) (K : Checks w.params prog top)
include T K
theorem get_none (X : LX) (v : LV) (b : Str) (hv : v.xs = []) (h3 : b.cps.size < 1000) (h : LexOk b v []) :
    ∃ v1 : Ov → LV, Spec prog w top (rG X v v1 fun _ => .none) ∧ ∀ z, LexOk b (v1 z) [] ∧ (v1 z).xs = [] := by
  obtain ⟨s, t, yd, sp, xs⟩ := v
  dsimp only at hv
  subst hv
  obtain ⟨tb, hy, ky, p, tp, tt, n, e1, e2, e3, h4, h5⟩ := h
  dsimp only at e1 e2 e3 h5
  subst e1 e2 e3
  have h4' : b.cps.size ≤ p := Nat.le_of_eq h4
  rcases h5 with ⟨ts, rfl⟩ | ⟨_, rfl⟩
  · refine ⟨fun z => ⟨.none, emptyT ((up2 z).n 2), sioD hy ky b tb p tp, (n : Int), []⟩, ?_, fun z => ⟨⟨tb, hy, ky, p, tp, _, n, rfl, rfl, rfl, h4, .inr ⟨rfl, rfl⟩⟩, rfl⟩⟩
    exact conv0 (sGetN T K X.x X.dx X.y X.dy X.pb X.fs X.hx X.kx X.vt _ _ _ (fun _ => .none) (fun z => emptyT (z.n 2)) (fun _ => sioD hy ky b tb p tp) (n : Int) 0 (sTokZ T K X.x X.dx X.y X.dy X.pb X.fs X.hx hy X.kx ky X.vt b tb p tp ts tt h4' h3))
      rfl (by exact Nat.le_of_ble_eq_true rfl) (.inl rfl) rfl fun x => ⟨x, rfl, rfl, rfl, rfl, rfl⟩
  · refine ⟨fun z => ⟨.none, emptyT ((up2 z).n 2), sioD hy ky b tb p tp, (n : Int), []⟩, ?_, fun z => ⟨⟨tb, hy, ky, p, tp, _, n, rfl, rfl, rfl, h4, .inr ⟨rfl, rfl⟩⟩, rfl⟩⟩
    exact conv0 (sGetN T K X.x X.dx X.y X.dy X.pb X.fs X.hx X.kx X.vt _ _ _ (fun _ => .none) (fun z => emptyT (z.n 2)) (fun _ => sioD hy ky b tb p tp) (n : Int) 0 (sTokN T K X.x X.dx X.y X.dy X.pb X.fs X.hx hy X.kx ky X.vt b tb p tp tt h4' h3))
      rfl (by exact Nat.le_of_ble_eq_true rfl) (.inl rfl) rfl fun x => ⟨x, rfl, rfl, rfl, rfl, rfl⟩
/-- the frame for what get_token does not look at -/
theorem getW_G (X : LX) (s t : Value) (yd : Obj) (sp : Int) (S2 T2 : Zn → Value) (Y2 : Zn → Obj) (wd : Str) (wt : Zn → Nat) (h : Spec prog w top (rGetW X.x X.dx X.y X.dy X.pb X.fs X.hx X.kx X.vt s t yd S2 T2 Y2 sp wd wt)) :
    Spec prog w top (rG X ⟨s, t, yd, sp, []⟩ (fun z => ⟨S2 (up2 z), T2 (up2 z), Y2 (up2 z), sp, []⟩) fun z => .str wd (wt (up2 z))) := by
  refine conv h rfl (by exact Nat.le_of_ble_eq_true rfl) (.inl rfl) ?_ ?_ ?_
  · intro q hq
    exact List.mem_append_left [(X.fs, dqO 0 [])] hq
  · intro nd
    exact (List.nodup_append.mp (show ([X.x, X.dx, X.y, X.dy, X.pb] ++ [X.fs]).Nodup from nd)).1
  · intro nd x
    have nd' := (List.nodup_append.mp (show ([X.x, X.dx, X.y, X.dy, X.pb] ++ [X.fs]).Nodup from nd)).2.2
    refine ⟨x, rfl, rfl, rfl, rfl, rfl, fun q hq => ?_⟩
    have hq' : q ∈ (rGetW X.x X.dx X.y X.dy X.pb X.fs X.hx X.kx X.vt s t yd S2 T2 Y2 sp wd wt).pre.zip ((rGetW X.x X.dx X.y X.dy X.pb X.fs X.hx X.kx X.vt s t yd S2 T2 Y2 sp wd wt).post x) ++ [((X.fs, dqO 0 []), dqO 0 [])] := hq
    rcases List.mem_append.mp hq' with hq' | hq'
    · exact .inl ⟨q, hq', rfl, rfl⟩
    · rcases List.mem_singleton.mp hq' with rfl
      exact .inr ⟨fun hm => nd' X.fs hm X.fs (by simp) rfl, rfl⟩
theorem pq_len (k : Nat) : 3 ≤ (pq k).length := by
  unfold pq
  split <;> decide
theorem has_size {b : Str} {p k : Nat} (h : Has b p (pq k)) : 2 ≤ b.cps.size := by
  have l := pq_len T K k
  have h1 : (pq k)[1]? = some (pq k)[1] := List.getElem?_eq_getElem (by omega)
  have := (Array.getElem?_eq_some_iff.mp (h 1 _ h1)).1
  omega
theorem get_text (X : LX) (v : LV) (b : Str) (k : Nat) (pend : List Nat) (hv : v.xs = []) (h3 : b.cps.size < 1000) (h : LexOk b v (k :: pend)) :
    ∃ (v1 : Ov → LV) (wt : Ov → Nat), Spec prog w top (rG X v v1 fun z => .str (pw k) (wt z)) ∧ ∀ z, LexOk b (v1 z) pend ∧ (v1 z).xs = [] := by
  obtain ⟨s, t, yd, sp, xs⟩ := v
  dsimp only at hv
  subst hv
  obtain ⟨tb, hy, ky, p, tp, tt, n, e1, e2, e3, h4, h5⟩ := h
  dsimp only at e1 e2 e3 h5
  subst e1 e2 e3
  rcases h5 with ⟨ts, rfl⟩ | ⟨e, _⟩
  · cases pend with
    | nil =>
      obtain ⟨hk, hh, he⟩ := (show k < 4 ∧ Has b p (pq k) ∧ b.cps.size = p + (pq k).length from h4)
      refine ⟨_, _, getW_G T K X _ _ _ (n : Int) (fun _ => .none) (fun z => emptyT (z.n 2)) (fun z => sioD hy ky b tb (p + (pq k).length) (z.n 3)) (pw k) (fun z => z.n 4) (sGetW T K _ _ _ _ _ _ _ _ _ _ _ _ _ _ _ _ _ _ ?_), fun z => ⟨⟨tb, hy, ky, p + (pq k).length, _, _, n, rfl, rfl, rfl, he, .inr ⟨rfl, rfl⟩⟩, rfl⟩⟩
      have := sTokE T K k hk X.x X.dx X.y X.dy X.pb X.fs X.hx hy X.kx ky X.vt b tb p tp ts tt hh (Nat.le_of_eq he) (has_size T K hh) h3
      rw [show pw k = ⟨⟨pwl k⟩⟩ from pw_eq k]
      exact this
    | cons k' r =>
      obtain ⟨hk, hh, he⟩ := (show k < 4 ∧ Has b p (pq k ++ [32]) ∧ Txt b (p + (pq k).length + 1) (k' :: r) from h4)
      have hh' : Has b p (pq k) := fun i c hi => hh i c (by rw [List.getElem?_append_left (by have := (List.getElem?_eq_some_iff.mp hi).1; exact this)]; exact hi)
      refine ⟨_, _, getW_G T K X _ _ _ (n : Int) (fun z => st1 32 (z.n 2)) (fun z => emptyT (z.n 3)) (fun z => sioD hy ky b tb (p + (pq k).length + 1) (z.n 4)) (pw k) (fun z => z.n 5) (sGetW T K _ _ _ _ _ _ _ _ _ _ _ _ _ _ _ _ _ _ ?_), fun z => ⟨⟨tb, hy, ky, p + (pq k).length + 1, _, _, n, rfl, rfl, rfl, he, .inl ⟨_, rfl⟩⟩, rfl⟩⟩
      have := sTok T K k hk X.x X.dx X.y X.dy X.pb X.fs X.hx hy X.kx ky X.vt b tb p tp ts tt hh (has_size T K hh') h3
      rw [show pw k = ⟨⟨pwl k⟩⟩ from pw_eq k]
      exact this
  · cases e
end
end Mine
end
end
section
open PySem PySem.W PySem.W.X PyProof.Rows PySem.Calls
noncomputable section
namespace Mine
/-! the machine, plainly -/
structure Cf where
  seen : List Nat
  st : Nat
  L : List Nat
  R : List Nat
noncomputable def stp (tab : Nat → Nat) (c : Cf) : Cf :=
  if tab (3 * c.st + min (c.R.headD 0) 2) / 4 % 2 = 0 then ⟨c.seen ++ [c.R.headD 0], tab (3 * c.st + min (c.R.headD 0) 2) / 8, tab (3 * c.st + min (c.R.headD 0) 2) % 4 :: c.L, c.R.tail⟩
  else ⟨c.seen ++ [c.R.headD 0], tab (3 * c.st + min (c.R.headD 0) 2) / 8, c.L.tail, c.L.headD 0 :: tab (3 * c.st + min (c.R.headD 0) 2) % 4 :: c.R.tail⟩
noncomputable def runN' (tab : Nat → Nat) : Nat → Cf → Cf
  | 0, c => c
  | n + 1, c => runN' tab n (stp tab c)
structure C2 where
  seen : List Nat
  st : Nat
  L : List Nat
  P : List Nat
  Q : List Nat
noncomputable def C2.k (c : C2) : Nat := (c.P ++ c.Q).headD 0
noncomputable def C2.x (tab : Nat → Nat) (c : C2) : Nat := tab (3 * c.st + min c.k 2)
noncomputable def C2.Q' (c : C2) : List Nat := match c.P with | [] => c.Q.tail | _ => c.Q
noncomputable def stp2 (tab : Nat → Nat) (c : C2) : C2 :=
  if c.x tab / 4 % 2 = 0 then ⟨c.seen ++ [c.k], c.x tab / 8, c.x tab % 4 :: c.L, c.P.tail, c.Q'⟩ else ⟨c.seen ++ [c.k], c.x tab / 8, c.L.tail, c.L.headD 0 :: c.x tab % 4 :: c.P.tail, c.Q'⟩
noncomputable def run2 (tab : Nat → Nat) : Nat → C2 → C2
  | 0, c => c
  | n + 1, c => run2 tab n (stp2 tab c)
noncomputable def C2.to (c : C2) : Cf := ⟨c.seen, c.st, c.L, c.P ++ c.Q⟩
theorem C2.tail_to (c : C2) : c.P.tail ++ c.Q' = (c.P ++ c.Q).tail := by
  obtain ⟨a, b, L, P, Q⟩ := c
  cases P <;> rfl
theorem stp2_to (tab : Nat → Nat) (c : C2) : (stp2 tab c).to = stp tab c.to := by
  unfold stp2 stp C2.x C2.k C2.to
  dsimp only
  split
  · simp only [c.tail_to]
  · simp only [List.cons_append, c.tail_to]
theorem run2_to (tab : Nat → Nat) : ∀ (n : Nat) (c : C2), (run2 tab n c).to = runN' tab n c.to
  | 0, c => rfl
  | n + 1, c => by
    show (run2 tab n (stp2 tab c)).to = runN' tab n (stp tab c.to)
    rw [run2_to tab n, stp2_to]
/-- all is in bounds -/
structure C2.Fine (c : C2) : Prop where
  st : c.st < 3
  L : ∀ k ∈ c.L, k < 4
  P : ∀ k ∈ c.P, k < 4
  Q : ∀ k ∈ c.Q, k < 4
theorem C2.k_lt {c : C2} (h : c.Fine) : c.k < 4 := by
  unfold C2.k
  cases hp : c.P with
  | nil => cases hq : c.Q with
    | nil => simp
    | cons a l => simpa using h.Q a (by rw [hq]; simp)
  | cons a l => simpa using h.P a (by rw [hp]; simp)
theorem stp2_fine {tab : Nat → Nat} (ht : ∀ i, tab i < 24) {c : C2} (h : c.Fine) : (stp2 tab c).Fine := by
  have hx : c.x tab < 24 := ht _
  have hQ : ∀ k ∈ c.Q', k < 4 := fun k hk => by
    unfold C2.Q' at hk
    split at hk
    · exact h.Q k (List.mem_of_mem_tail hk)
    · exact h.Q k hk
  have hL : c.L.headD 0 < 4 := by
    cases hl : c.L with
    | nil => simp
    | cons a l => simpa using h.L a (by rw [hl]; simp)
  unfold stp2
  split
  · refine ⟨by show c.x tab / 8 < 3; omega, fun k hk => ?_, fun k hk => h.P k (List.mem_of_mem_tail hk), hQ⟩
    rcases List.mem_cons.mp hk with rfl | hk
    · omega
    · exact h.L k hk
  · refine ⟨by show c.x tab / 8 < 3; omega, fun k hk => h.L k (List.mem_of_mem_tail hk), fun k hk => ?_, hQ⟩
    rcases List.mem_cons.mp hk with rfl | hk
    · exact hL
    · rcases List.mem_cons.mp hk with rfl | hk
      · omega
      · exact h.P k (List.mem_of_mem_tail hk)
/-! _law_rule -/
theorem mul3 (b : Int) : IntMulOk 3 b := IntMulOk.of_left (by decide +kernel)
theorem rule_ints : ∀ a : Nat, a < 24 → ((a : Int).fmod 4 = (a : Int) % 4 ∧ (a : Int).fdiv 4 = (a : Int) / 4 ∧ ((a : Int) / 4).fmod 2 = (a : Int) / 4 % 2 ∧ (a : Int).fdiv 8 = (a : Int) / 8 ∧ ((a : Int) / 4 % 2 == 0) = decide (a / 4 % 2 = 0)) := by decide
theorem pylong4 (a : Int) : Builtin.divisionGoesByPylong a 4 = false := rfl
theorem pylong8 (a : Int) : Builtin.divisionGoesByPylong a 8 = false := rfl
theorem wl_at (t : Nat) : ∀ a : Nat, a < 4 → (wl t)[a]? = some (.str (pw a) (t + a))
  | 0, _ => rfl
  | 1, _ => rfl
  | 2, _ => rfl
  | 3, _ => rfl
section
variable {prog : Program} {w : World} {top : KT} (T : Top top prog w) (K : Checks w.params prog top)
include T K
theorem sRule (k : Nat) (hk : k < 4) (tb : Addr) (xs : List Value) (n : Nat) (st : Nat) (ts tw a tx : Nat) (ha : a < 24) (hst : st < 3) (hx : xs[3 * st + min k 2]? = some (.int (a : Int) tx)) :
    Spec prog w top (rRule tb xs n (st : Int) ts tw (a : Int) tx (pw (a % 4)) (decide (a / 4 % 2 = 0)) (pw k)) := by
  obtain ⟨r1, r2, r3, r4, r5⟩ := rule_ints a ha
  have e4 : (a : Int) % 4 = ((a % 4 : Nat) : Int) := rfl
  have hR : ∀ (wd : Str) (c : Int) (hc : 3 * (st : Int) + 1 + c = ((3 * st + min k 2 : Nat) : Int)) m tk, RcsOk prog w top (rRuleR tb xs n (st : Int) ts tw (a : Int) tx (pw (a % 4)) (decide (a / 4 % 2 = 0)) wd (a % 4) c m tk) := fun wd c hc m tk =>
    rcs_cons (fun _ => sMulI _ _ _ _ _ _ _ _ rfl (mul3 _)) fun _ => rcs_cons (fun _ => sItem _ _ _ _ _ _ _ _ _ (by rw [hc]; omega) (by rw [hc]; omega) (by rw [hc]; exact hx)) fun za =>
    rcs_cons (fun _ => sModI _ _ _ _ _ _ _ _ (by decide) r1) fun _ => rcs_cons (fun _ => sItem _ _ _ _ _ _ _ _ _ (by rw [e4]; omega) (by rw [e4]; omega) (by rw [e4]; exact wl_at _ _ (by omega))) fun _ =>
    rcs_cons (fun _ => sDivI _ _ _ _ _ _ _ _ (by decide) (pylong4 _) r2) fun _ => rcs_cons (fun _ => sModI _ _ _ _ _ _ _ _ (by decide) r3) fun _ => rcs_cons (fun _ => sEq _ _ _ _ _ _ _ _ r5) fun _ =>
    rcs_cons (fun _ => sDivI _ _ _ _ _ _ _ _ (by decide) (pylong8 _) r4) fun _ => rcs_nil
  match k, hk, hx with
  | 0, _, _ => exact spec_chk T _ rfl _ _ _ _ (hR ⟨⟨w0⟩⟩ (-1) (by omega)) _ _ _ _ _ (by exact Nat.le_of_ble_eq_true rfl) (by rfl) (fun _ => by rfl) (by decide) (K.rRule0 _ tb xs n st ts tw a tx (pw (a % 4)) (decide (a / 4 % 2 = 0)) (a % 4))
  | 1, _, _ => exact spec_chk T _ rfl _ _ _ _ (hR ⟨⟨w1⟩⟩ 0 (by omega)) _ _ _ _ _ (by exact Nat.le_of_ble_eq_true rfl) (by rfl) (fun _ => by rfl) (by decide) (K.rRule1 _ tb xs n st ts tw a tx (pw (a % 4)) (decide (a / 4 % 2 = 0)) (a % 4))
  | 2, _, _ => exact spec_chk T _ rfl _ _ _ _ (hR ⟨⟨w2⟩⟩ 1 (by omega)) _ _ _ _ _ (by exact Nat.le_of_ble_eq_true rfl) (by rfl) (fun _ => by rfl) (by decide) (K.rRule2 _ tb xs n st ts tw a tx (pw (a % 4)) (decide (a / 4 % 2 = 0)) (a % 4))
  | 3, _, _ => exact spec_chk T _ rfl _ _ _ _ (hR ⟨⟨w3⟩⟩ 1 (by omega)) _ _ _ _ _ (by exact Nat.le_of_ble_eq_true rfl) (by rfl) (fun _ => by rfl) (by decide) (K.rRule3 _ tb xs n st ts tw a tx (pw (a % 4)) (decide (a / 4 % 2 = 0)) (a % 4))
end
end Mine
end
end
section
open PySem PySem.W PySem.W.X PyProof.Rows PySem.Calls
noncomputable section
namespace Mine
theorem caller_for (s : Stmt) (it : Value) (env : Env) : (forC s it env).isCaller = false := by cases s <;> rfl
/-! _law_by_two's loop -/
noncomputable def nv (a b : Nat) : Value := match a with | 0 => .none | k + 1 => .str (pw k) b
noncomputable def bN (b : Bool) : Nat := match b with | true => 0 | false => 1
noncomputable def dV (i : Nat) (m : Nat → Nat) : Value := match i with
  | 0 => .int (Int.ofNat (m 0)) (m 1)
  | 1 => nv (m 2) (m 3)
  | 2 => .str (pw (m 4)) (m 5)
  | _ => .bool (m 6 == 0)
noncomputable def finG (P₀ : Params) (O : FT) (R Z : LX) (sn : Addr) (b : Str) (c : C2) (q : Nat) : Nat → MM → Obj := fun i m =>
  nowF P₀ O R Z sn (c.st : Int) (m 1 0) (kT P₀ (m 1 1) (m 1 2) (m 1 3) (m 1 4) (dV 0 (m 3)) (dV 1 (m 3)) (dV 2 (m 3)) (dV 3 (m 3))) 11 (wv c.seen (m 0)) q (lexD b c.P c.Q (fun i => m (2 * i + 4))) (lexD ⟨⟨[]⟩⟩ c.L [] (fun i => m (2 * i + 5))) i
/-- the two lexers at a turn -/
structure TwoOk (b : Str) (c : C2) (rv lv : LV) (ss : List Value) (cnt : Nat) : Prop where
  fine : c.Fine
  r : LexOk b rv c.Q
  rx : IsW c.P rv.xs
  l : LexOk ⟨⟨[]⟩⟩ lv []
  lx : IsW c.L lv.xs
  s : IsW c.seen ss
  np : c.P.length ≤ cnt + 1
  nl : c.L.length ≤ cnt
  ns : c.seen.length = cnt
section
variable {prog : Program} {w : World} {top : KT} (T : Top top prog w) (K : Checks w.params prog top)
include T K
theorem two_loop (tab : Nat → Nat) (ht : ∀ i, tab i < 24) (b : Str) (hb : b.cps.size < 1000) (O : FT) (R Z : LX) (it sn : Addr) (tt : List Value) (nt : Nat) (htt : ∀ i, i < 9 → ∃ tx, tt[i]? = some (.int (tab i : Int) tx)) :
    ∀ (r : Nat) (c : C2) (cnt ts t7 t8 t9 ta : Nat) (mv : Nat → Nat) (ss : List Value) (rv lv : LV), cnt + r ≤ 12 → TwoOk b c rv lv ss cnt →
      Spec prog w top (rTwL top w.params O R Z it sn tt nt (c.st : Int) ts (kT w.params t7 t8 t9 ta (dV 0 mv) (dV 1 mv) (dV 2 mv) (dV 3 mv)) 11 ss cnt rv lv cnt r (finG w.params O R Z sn b (run2 tab r c) (cnt + r)))
  | 0, c, cnt, ts, t7, t8, t9, ta, mv, ss, rv, lv, hc, h => by
    have hE : Spec prog w top (rTwE top w.params O R Z it sn tt nt (c.st : Int) ts (kT w.params t7 t8 t9 ta (dV 0 mv) (dV 1 mv) (dV 2 mv) (dV 3 mv)) 11 ss cnt rv lv cnt) :=
      spec_chk T _ rfl _ _ _ _ (fun _ _ => rcs_nil) _ _ _ _ _ (by exact Nat.le_of_ble_eq_true rfl) (caller_for _ _ _) (fun _ => by rfl) (by decide) (K.rTwE _ O R Z it sn tt nt (c.st : Int) ts (kT w.params t7 t8 t9 ta (dV 0 mv) (dV 1 mv) (dV 2 mv) (dV 3 mv)) 11 ss cnt rv lv cnt)
    obtain ⟨Ts, rfl⟩ := h.s.of
    obtain ⟨MR, rfl⟩ := lexD_of h.r h.rx
    obtain ⟨ML, rfl⟩ := lexD_of h.l h.lx
    refine conv0 hE rfl (Nat.le_refl _) (.inl rfl) rfl fun x => ?_
    refine ⟨⟨x.n, fun i => if i < 4 then (match i with | 0 => Ts | 1 => fun j => (match j with | 0 => ts | 1 => t7 | 2 => t8 | 3 => t9 | _ => ta) | 2 => fun _ => 0 | _ => mv) else if i % 2 = 0 then MR ((i - 4) / 2) else ML ((i - 5) / 2), x.o, x.p, x.b⟩, rfl, rfl, rfl, rfl, ?_⟩
    have e1 : (fun i => (fun i => if i < 4 then (match i with | 0 => Ts | 1 => fun j => (match j with | 0 => ts | 1 => t7 | 2 => t8 | 3 => t9 | _ => ta) | 2 => fun _ => 0 | _ => mv) else if i % 2 = 0 then MR ((i - 4) / 2) else ML ((i - 5) / 2)) (2 * i + 4)) = MR := by
      funext i
      dsimp only
      rw [if_neg (by omega), if_pos (by omega), show (2 * i + 4 - 4) / 2 = i by omega]
    have e2 : (fun i => (fun i => if i < 4 then (match i with | 0 => Ts | 1 => fun j => (match j with | 0 => ts | 1 => t7 | 2 => t8 | 3 => t9 | _ => ta) | 2 => fun _ => 0 | _ => mv) else if i % 2 = 0 then MR ((i - 4) / 2) else ML ((i - 5) / 2)) (2 * i + 5)) = ML := by
      funext i
      dsimp only
      rw [if_neg (by omega), if_neg (by omega), show (2 * i + 5 - 5) / 2 = i by omega]
    have e3 : ∀ i, finG w.params O R Z sn b (run2 tab 0 c) (cnt + 0) i (fun i => if i < 4 then (match i with | 0 => Ts | 1 => fun j => (match j with | 0 => ts | 1 => t7 | 2 => t8 | 3 => t9 | _ => ta) | 2 => fun _ => 0 | _ => mv) else if i % 2 = 0 then MR ((i - 4) / 2) else ML ((i - 5) / 2)) =
        nowF w.params O R Z sn (c.st : Int) ts (kT w.params t7 t8 t9 ta (dV 0 mv) (dV 1 mv) (dV 2 mv) (dV 3 mv)) 11 (wv c.seen Ts) cnt (lexD b c.P c.Q MR) (lexD ⟨⟨[]⟩⟩ c.L [] ML) i := by
      intro i
      unfold finG
      rw [e1, e2]
      rfl
    simp only [rTwL, rTwE, e3]
  | r + 1, c, cnt, ts, t7, t8, t9, ta, mv, ss, rv, lv, hc, h => by
    have hk := C2.k_lt h.fine
    have hf' := stp2_fine ht h.fine
    have hst := h.fine.st
    obtain ⟨tx, htx⟩ := htt (3 * c.st + min c.k 2) (by omega)
    have hx : c.x tab < 24 := ht _
    have hrule : ∀ tw, Spec prog w top (rRule O.tab tt nt (c.st : Int) ts tw (c.x tab : Int) tx (pw (c.x tab % 4)) (decide (c.x tab / 4 % 2 = 0)) (pw c.k)) := fun tw => sRule T K c.k hk _ _ _ _ _ _ _ _ hx hst htx
    have hss : ss.length = cnt := by rw [h.s.length, h.ns]
    have hrx := h.rx.length
    have hlx := h.lx.length
    have np := h.np
    have nl := h.nl
    -- the rest
    have rest : ∀ (t7' t8' t9' ta' : Nat) (z0 zr : Ov) (wv' : Value) (on : Bool) (tw : Nat) (rv' lv' : LV), (∃ m2 m3, wv' = nv m2 m3) → LexOk b rv' (stp2 tab c).Q → IsW (stp2 tab c).P rv'.xs → LexOk ⟨⟨[]⟩⟩ lv' [] → IsW (stp2 tab c).L lv'.xs →
        (stp2 tab c).P.length ≤ cnt + 2 → (stp2 tab c).L.length ≤ cnt + 1 → Spec prog w top (rTwL top w.params O R Z it sn tt nt ((c.x tab : Int) / 8) (zr.n 4) (kT w.params t7' t8' t9' ta' (.int (Int.ofNat cnt) (z0.n 2)) wv' (.str (pw (c.x tab % 4)) (zr.n 3)) (.bool on)) 11 (ss ++ [Value.str (pw c.k) tw]) (cnt + 1) rv' lv' (cnt + 1) r (finG w.params O R Z sn b (run2 tab (r + 1) c) (cnt + (r + 1)))) := by
      intro t7' t8' t9' ta' z0 zr wv' on tw rv' lv' hw a1 a2 a3 a4 a5 a6
      obtain ⟨m2, m3, rfl⟩ := hw
      have est : ((c.x tab : Int) / 8) = ((stp2 tab c).st : Int) := by unfold stp2; split <;> rfl
      have esn : (stp2 tab c).seen = c.seen ++ [c.k] := by unfold stp2; split <;> rfl
      have ih := two_loop tab ht b hb O R Z it sn tt nt htt r (stp2 tab c) (cnt + 1) (zr.n 4) t7' t8' t9' ta' (fun j => match j with | 0 => cnt | 1 => z0.n 2 | 2 => m2 | 3 => m3 | 4 => c.x tab % 4 | 5 => zr.n 3 | _ => bN on) (ss ++ [Value.str (pw c.k) tw]) rv' lv' (by omega)
        ⟨hf', a1, a2, a3, a4, by rw [esn]; exact h.s.append (.one _ _), a5, a6, by rw [esn]; simp [h.ns]⟩
      rw [est, show cnt + (r + 1) = cnt + 1 + r by omega]
      have eb : (Value.bool on) = dV 3 (fun j => match j with | 0 => cnt | 1 => z0.n 2 | 2 => m2 | 3 => m3 | 4 => c.x tab % 4 | 5 => zr.n 3 | _ => bN on) := by cases on <;> rfl
      rw [eb]
      exact ih
    have hP2 : decide (c.x tab / 4 % 2 = 0) = true → (stp2 tab c).P = c.P.tail ∧ (stp2 tab c).L = c.x tab % 4 :: c.L := fun e => by
      unfold stp2; rw [if_pos (of_decide_eq_true e)]; exact ⟨rfl, rfl⟩
    have hP3 : decide (c.x tab / 4 % 2 = 0) = false → (stp2 tab c).P = c.L.headD 0 :: c.x tab % 4 :: c.P.tail ∧ (stp2 tab c).L = c.L.tail := fun e => by
      unfold stp2; rw [if_neg (of_decide_eq_false e)]; exact ⟨rfl, rfl⟩
    have hQ : (stp2 tab c).Q = c.Q' := by unfold stp2; split <;> rfl
    -- what get_token gives on the right: a word or nothing
    have right : ∃ (v1 : Ov → LV) (ws : Bool) (wtk : Ov → Nat), Spec prog w top (rG R rv v1 (match ws with | true => fun z => .str (pw c.k) (wtk z) | false => fun _ => .none)) ∧ (ws = false → c.k = 0) ∧
        (∀ z, LexOk b (v1 z) c.Q' ∧ IsW c.P.tail (v1 z).xs ∧ (v1 z).xs.length ≤ cnt) := by
      cases hp : c.P with
      | cons k P' =>
        have hrx' := h.rx
        rw [hp] at hrx'
        generalize hxs : rv.xs = xs at hrx'
        cases hrx' with
        | @cons _ _ xs' t h2 =>
          have hl : xs'.length ≤ cnt := by rw [h2.length]; rw [hp] at np; simp at np; omega
          have ek : c.k = k := by unfold C2.k; rw [hp]; rfl
          have eq' : c.Q' = c.Q := by unfold C2.Q'; rw [hp]
          refine ⟨fun _ => { rv with sp := rv.sp + 1, xs := xs' }, true, fun _ => t, ?_, (fun e => by cases e), fun z => ⟨?_, h2, hl⟩⟩
          · rw [ek]; exact get_pushed T K R rv _ t xs' hxs (by omega)
          · rw [eq']
            obtain ⟨tb, hy, ky, p, tp, tt', n, e1, e2, e3, e4, e5⟩ := h.r
            exact ⟨tb, hy, ky, p, tp, tt', n + 1, e1, e2, by show rv.sp + 1 = _; rw [e3]; rfl, e4, e5⟩
      | nil =>
        have hxs : rv.xs = [] := by have := hrx; rw [hp] at this; exact List.length_eq_zero_iff.mp this
        cases hq : c.Q with
        | cons k Q' =>
          have hr := h.r
          rw [hq] at hr
          obtain ⟨v1, wtk, s1, s2⟩ := get_text T K R rv b k Q' hxs hb hr
          have ek : c.k = k := by unfold C2.k; rw [hp, hq]; rfl
          have eq' : c.Q' = Q' := by unfold C2.Q'; rw [hp, hq]; rfl
          refine ⟨v1, true, wtk, by rw [ek]; exact s1, (fun e => by cases e), fun z => ⟨by rw [eq']; exact (s2 z).1, by rw [(s2 z).2]; exact .nil, by rw [(s2 z).2]; simp⟩⟩
        | nil =>
          have hr := h.r
          rw [hq] at hr
          obtain ⟨v1, s1, s2⟩ := get_none T K R rv b hxs hb hr
          have ek : c.k = 0 := by unfold C2.k; rw [hp, hq]; rfl
          have eq' : c.Q' = [] := by unfold C2.Q'; rw [hp, hq]; rfl
          exact ⟨v1, false, fun _ => 0, s1, fun _ => ek, fun z => ⟨by rw [eq']; exact (s2 z).1, by rw [(s2 z).2]; exact .nil, by rw [(s2 z).2]; simp⟩⟩
    have left : ∃ (v1 : Ov → LV) (ls : Bool) (lk : Nat) (ltk : Ov → Nat), Spec prog w top (rG Z lv v1 (match ls with | true => fun z => .str (pw lk) (ltk z) | false => fun _ => .none)) ∧ lk = c.L.headD 0 ∧ (ls = false → lk = 0) ∧
        (∀ z, LexOk ⟨⟨[]⟩⟩ (v1 z) [] ∧ IsW c.L.tail (v1 z).xs) := by
      cases hl : c.L with
      | cons k L' =>
        have hlx' := h.lx
        rw [hl] at hlx'
        generalize hxs : lv.xs = xs at hlx'
        cases hlx' with
        | @cons _ _ xs' t h2 =>
          have hl' : xs'.length ≤ cnt := by rw [h2.length]; rw [hl] at nl; simp at nl; omega
          refine ⟨fun _ => { lv with sp := lv.sp + 1, xs := xs' }, true, k, fun _ => t, get_pushed T K Z lv _ t xs' hxs (by omega), rfl, (fun e => by cases e), fun z => ⟨?_, h2⟩⟩
          obtain ⟨tb, hy, ky, p, tp, tt', n, e1, e2, e3, e4, e5⟩ := h.l
          exact ⟨tb, hy, ky, p, tp, tt', n + 1, e1, e2, by show lv.sp + 1 = _; rw [e3]; rfl, e4, e5⟩
      | nil =>
        have hxs : lv.xs = [] := by have := hlx; rw [hl] at this; exact List.length_eq_zero_iff.mp this
        obtain ⟨v1, s1, s2⟩ := get_none T K Z lv ⟨⟨[]⟩⟩ hxs (by decide) h.l
        exact ⟨v1, false, 0, fun _ => 0, s1, rfl, fun _ => rfl, fun z => ⟨(s2 z).1, by rw [(s2 z).2]; exact .nil⟩⟩
    obtain ⟨rv1, ws, wtk, hG, hws, hR1⟩ := right
    obtain ⟨lv1, ls, lk, ltk, hGl, hlk, hls, hL1⟩ := left
    have push : ∀ {b' : Str} {v : LV} {pend Pp : List Nat} (k t : Nat), LexOk b' v pend → IsW Pp v.xs → LexOk b' (v.push (pw k) t) pend ∧ IsW (k :: Pp) (v.push (pw k) t).xs := fun {b' v pend Pp} k t g1 g2 => by
      obtain ⟨tb, hy, ky, p, tp, tt', n, e1, e2, e3, e4, e5⟩ := g1
      exact ⟨⟨tb, hy, ky, p, tp, tt', n + 1, e1, e2, by show v.sp + 1 = _; rw [e3]; rfl, e4, e5⟩, .cons _ g2⟩
    generalize hon : decide (c.x tab / 4 % 2 = 0) = on at hrule hP2 hP3
    have rgn := sRgN prog w top it cnt r
    have goOn : on = true → ∀ (z1 zr : Ov) (t7' t8' t9' ta' : Nat) (z0 : Ov) (wv' : Value) (tw : Nat), (∃ m2 m3, wv' = nv m2 m3) → Spec prog w top (rTwL top w.params O R Z it sn tt nt ((c.x tab : Int) / 8) (zr.n 4) (kT w.params t7' t8' t9' ta' (.int (Int.ofNat cnt) (z0.n 2)) wv' (.str (pw (c.x tab % 4)) (zr.n 3)) (.bool true)) 11 (ss ++ [Value.str (pw c.k) tw]) (cnt + 1) (rv1 z1) (lv.push (pw (c.x tab % 4)) (zr.n 3)) (cnt + 1) r (finG w.params O R Z sn b (run2 tab (r + 1) c) (cnt + (r + 1)))) := fun e z1 zr t7' t8' t9' ta' z0 wv' tw hw => by
      obtain ⟨p1, p2⟩ := hP2 e
      obtain ⟨g1, g2⟩ := push (c.x tab % 4) (zr.n 3) h.l h.lx
      exact rest t7' t8' t9' ta' z0 zr wv' true tw _ _ hw (by rw [hQ]; exact (hR1 z1).1) (by rw [p1]; exact (hR1 z1).2.1) g1 (by rw [p2]; exact g2) (by rw [p1]; simp; omega) (by rw [p2]; simp; omega)
    have goOff : on = false → ∀ (z1 zr zg : Ov) (t7' t8' t9' ta' : Nat) (z0 : Ov) (wv' : Value) (tw tl' : Nat), (∃ m2 m3, wv' = nv m2 m3) → Spec prog w top (rTwL top w.params O R Z it sn tt nt ((c.x tab : Int) / 8) (zr.n 4) (kT w.params t7' t8' t9' ta' (.int (Int.ofNat cnt) (z0.n 2)) wv' (.str (pw (c.x tab % 4)) (zr.n 3)) (.bool false)) 11 (ss ++ [Value.str (pw c.k) tw]) (cnt + 1) (((rv1 z1).push (pw (c.x tab % 4)) (zr.n 3)).push (pw lk) tl') (lv1 zg) (cnt + 1) r (finG w.params O R Z sn b (run2 tab (r + 1) c) (cnt + (r + 1)))) := fun e z1 zr zg t7' t8' t9' ta' z0 wv' tw tl' hw => by
      obtain ⟨p1, p2⟩ := hP3 e
      obtain ⟨g1, g2⟩ := push (c.x tab % 4) (zr.n 3) (hR1 z1).1 (hR1 z1).2.1
      obtain ⟨g3, g4⟩ := push lk tl' g1 g2
      exact rest t7' t8' t9' ta' z0 zr wv' false tw _ _ hw (by rw [hQ]; exact g3) (by rw [p1, ← hlk]; exact g4) (hL1 zg).1 (by rw [p2]; exact (hL1 zg).2) (by rw [p1]; simp; omega) (by rw [p2]; simp; omega)
    have hp1 : ∀ z1 s t, Spec prog w top (rP R (rv1 z1) s t) := fun z1 s t => sP T K R _ s t (by have := (hR1 z1).2.2; omega)
    have hp2 : ∀ z1 s t s' t', Spec prog w top (rP R ((rv1 z1).push s t) s' t') := fun z1 s t s' t' => sP T K R _ s' t' (by have := (hR1 z1).2.2; show (rv1 z1).xs.length + 1 < 17; omega)
    have hp3 : ∀ s t, Spec prog w top (rP Z lv s t) := fun s t => sP T K Z _ s t (by omega)
    have happ : ∀ v, Spec prog w top (rApp sn ss cnt v) := fun v => sApp prog w top sn ss cnt v (by omega)
    have hlast : ∀ t v, Spec prog w top (rLast sn (ss ++ [v]) (cnt + 1) t v) := fun t v => sLast prog w top sn (ss ++ [v]) (cnt + 1) t v (by simp)
    have e0 : ws = false → pw c.k = sw0 := fun e => by rw [hws e]; rfl
    have el : ls = false → pw lk = sw0 := fun e => by rw [hls e]; rfl
    have lv9 : (690 : Nat) ≤ 900 := by decide
    let X : TT := ⟨O, R, Z, it, sn, tt, nt, t7, dV 0 mv, t8, dV 1 mv, t9, dV 2 mv, ta, dV 3 mv, ss, cnt, rv, rv1, lv, lv1, pw c.k, wtk, pw lk, ltk, cnt, r, (c.st : Int), ts, (c.x tab : Int), tx, pw (c.x tab % 4), finG w.params O R Z sn b (run2 tab (r + 1) c) (cnt + (r + 1))⟩
    cases ws with
    | true =>
      cases on with
      | true =>
        exact spec_chk T _ rfl _ _ _ _ (fun _ _ => rcs_cons (fun _ => rgn) fun z0 => rcs_cons (fun _ => hG) fun z1 => rcs_cons (fun _ => happ _) fun _ => rcs_cons (fun _ => hlast _ _) fun _ => rcs_cons (fun _ => hrule _) fun zr =>
          rcs_cons (fun _ => hp3 _ _) fun _ => rcs_cons (fun _ => goOn rfl z1 zr _ _ _ _ z0 _ _ ⟨c.k + 1, _, rfl⟩) fun _ => rcs_nil) _ _ _ _ _ lv9 (caller_for _ _ _) (fun _ => by rfl) (by decide) (K.rTwT0 _ X)
      | false =>
        cases ls with
        | true =>
          exact spec_chk T _ rfl _ _ _ _ (fun _ _ => rcs_cons (fun _ => rgn) fun z0 => rcs_cons (fun _ => hG) fun z1 => rcs_cons (fun _ => happ _) fun _ => rcs_cons (fun _ => hlast _ _) fun _ => rcs_cons (fun _ => hrule _) fun zr =>
            rcs_cons (fun _ => hp1 _ _ _) fun _ => rcs_cons (fun _ => hGl) fun zg => rcs_cons (fun _ => hp2 _ _ _ _ _) fun _ => rcs_cons (fun _ => goOff rfl z1 zr zg _ _ _ _ z0 _ _ _ ⟨lk + 1, _, rfl⟩) fun _ => rcs_nil) _ _ _ _ _ lv9 (caller_for _ _ _) (fun _ => by rfl) (by decide) (K.rTwT1 _ X)
        | false =>
          rw [el rfl] at goOff
          exact spec_chk T _ rfl _ _ _ _ (fun _ _ => rcs_cons (fun _ => rgn) fun z0 => rcs_cons (fun _ => hG) fun z1 => rcs_cons (fun _ => happ _) fun _ => rcs_cons (fun _ => hlast _ _) fun _ => rcs_cons (fun _ => hrule _) fun zr =>
            rcs_cons (fun _ => hp1 _ _ _) fun _ => rcs_cons (fun _ => hGl) fun zg => rcs_cons (fun _ => hp2 _ _ _ _ _) fun _ => rcs_cons (fun _ => goOff rfl z1 zr zg _ _ _ _ z0 _ _ _ ⟨0, 0, rfl⟩) fun _ => rcs_nil) _ _ _ _ _ lv9 (caller_for _ _ _) (fun _ => by rfl) (by decide) (K.rTwT2 _ X)
    | false =>
      rw [e0 rfl] at hrule goOn goOff
      cases on with
      | true =>
        exact spec_chk T _ rfl _ _ _ _ (fun _ _ => rcs_cons (fun _ => rgn) fun z0 => rcs_cons (fun _ => hG) fun z1 => rcs_cons (fun _ => happ _) fun _ => rcs_cons (fun _ => hlast _ _) fun _ => rcs_cons (fun _ => hrule _) fun zr =>
          rcs_cons (fun _ => hp3 _ _) fun _ => rcs_cons (fun _ => goOn rfl z1 zr _ _ _ _ z0 _ _ ⟨0, 0, rfl⟩) fun _ => rcs_nil) _ _ _ _ _ lv9 (caller_for _ _ _) (fun _ => by rfl) (by decide) (K.rTwT3 _ X)
      | false =>
        cases ls with
        | true =>
          exact spec_chk T _ rfl _ _ _ _ (fun _ _ => rcs_cons (fun _ => rgn) fun z0 => rcs_cons (fun _ => hG) fun z1 => rcs_cons (fun _ => happ _) fun _ => rcs_cons (fun _ => hlast _ _) fun _ => rcs_cons (fun _ => hrule _) fun zr =>
            rcs_cons (fun _ => hp1 _ _ _) fun _ => rcs_cons (fun _ => hGl) fun zg => rcs_cons (fun _ => hp2 _ _ _ _ _) fun _ => rcs_cons (fun _ => goOff rfl z1 zr zg _ _ _ _ z0 _ _ _ ⟨lk + 1, _, rfl⟩) fun _ => rcs_nil) _ _ _ _ _ lv9 (caller_for _ _ _) (fun _ => by rfl) (by decide) (K.rTwT4 _ X)
        | false =>
          rw [el rfl] at goOff
          exact spec_chk T _ rfl _ _ _ _ (fun _ _ => rcs_cons (fun _ => rgn) fun z0 => rcs_cons (fun _ => hG) fun z1 => rcs_cons (fun _ => happ _) fun _ => rcs_cons (fun _ => hlast _ _) fun _ => rcs_cons (fun _ => hrule _) fun zr =>
            rcs_cons (fun _ => hp1 _ _ _) fun _ => rcs_cons (fun _ => hGl) fun zg => rcs_cons (fun _ => hp2 _ _ _ _ _) fun _ => rcs_cons (fun _ => goOff rfl z1 zr zg _ _ _ _ z0 _ _ _ ⟨0, 0, rfl⟩) fun _ => rcs_nil) _ _ _ _ _ lv9 (caller_for _ _ _) (fun _ => by rfl) (by decide) (K.rTwT5 _ X)
end
end Mine
end
end
section
open PySem PySem.W PySem.W.X PyProof.Rows PySem.Calls
noncomputable section
namespace Mine
section
variable {prog : Program} {w : World} {top : KT} (T : Top top prog w) (K : Checks w.params prog top)
include T K
theorem two_first (tab : Nat → Nat) (ht : ∀ i, tab i < 24) (b : Str) (hb : b.cps.size < 1000) (O : FT) (R Z : LX) (it sn : Addr) (tt : List Value) (nt : Nat) (htt : ∀ i, i < 9 → ∃ tx, tt[i]? = some (.int (tab i : Int) tx))
    (r st ts k : Nat) (Q : List Nat) (rv lv : LV) (hr : r < 12) (h : TwoOk b ⟨[], st, [], [], k :: Q⟩ rv lv [] 0) :
      Spec prog w top (rTwL top w.params O R Z it sn tt nt (st : Int) ts [] 7 [] 0 rv lv 0 (r + 1) (finG w.params O R Z sn b (run2 tab (r + 1) ⟨[], st, [], [], k :: Q⟩) (r + 1))) := by
  generalize hc : (⟨[], st, [], [], k :: Q⟩ : C2) = c at h
  have hk : k < 4 := h.fine.Q k (by rw [← hc]; simp)
  have hf' := stp2_fine ht h.fine
  have hst : st < 3 := by have := h.fine.st; rw [← hc] at this; exact this
  obtain ⟨tx, htx⟩ := htt (3 * st + min k 2) (by omega)
  have ex : c.x tab = tab (3 * st + min k 2) := by rw [← hc]; rfl
  have ek : c.k = k := by rw [← hc]; rfl
  have hx : c.x tab < 24 := ht _
  have hrule : ∀ tw, Spec prog w top (rRule O.tab tt nt (st : Int) ts tw (c.x tab : Int) tx (pw (c.x tab % 4)) (decide (c.x tab / 4 % 2 = 0)) (pw k)) := fun tw => sRule T K k hk _ _ _ _ _ _ _ _ hx hst (by rw [ex]; exact htx)
  have rest : ∀ (t7' t8' t9' ta' : Nat) (z0 zr : Ov) (wv' : Value) (on : Bool) (tw : Nat) (rv' lv' : LV), (∃ m2 m3, wv' = nv m2 m3) → LexOk b rv' (stp2 tab c).Q → IsW (stp2 tab c).P rv'.xs → LexOk ⟨⟨[]⟩⟩ lv' [] → IsW (stp2 tab c).L lv'.xs →
      (stp2 tab c).P.length ≤ 2 → (stp2 tab c).L.length ≤ 1 → Spec prog w top (rTwL top w.params O R Z it sn tt nt ((c.x tab : Int) / 8) (zr.n 4) (kT w.params t7' t8' t9' ta' (.int (Int.ofNat 0) (z0.n 2)) wv' (.str (pw (c.x tab % 4)) (zr.n 3)) (.bool on)) 11 ([] ++ [Value.str (pw k) tw]) (0 + 1) rv' lv' (0 + 1) r (finG w.params O R Z sn b (run2 tab (r + 1) c) (r + 1))) := by
    intro t7' t8' t9' ta' z0 zr wv' on tw rv' lv' hw a1 a2 a3 a4 a5 a6
    obtain ⟨m2, m3, rfl⟩ := hw
    have est : ((c.x tab : Int) / 8) = ((stp2 tab c).st : Int) := by unfold stp2; split <;> rfl
    have esn : (stp2 tab c).seen = [] ++ [k] := by unfold stp2; split <;> (rw [ek, ← hc])
    have ih := two_loop T K tab ht b hb O R Z it sn tt nt htt r (stp2 tab c) (0 + 1) (zr.n 4) t7' t8' t9' ta' (fun j => match j with | 0 => 0 | 1 => z0.n 2 | 2 => m2 | 3 => m3 | 4 => c.x tab % 4 | 5 => zr.n 3 | _ => bN on) ([] ++ [Value.str (pw k) tw]) rv' lv' (by omega)
      ⟨hf', a1, a2, a3, a4, by rw [esn]; exact IsW.append .nil (.one _ _), a5, a6, by rw [esn]; rfl⟩
    have eb : (Value.bool on) = dV 3 (fun j => match j with | 0 => 0 | 1 => z0.n 2 | 2 => m2 | 3 => m3 | 4 => c.x tab % 4 | 5 => zr.n 3 | _ => bN on) := by cases on <;> rfl
    rw [est, eb, show r + 1 = 0 + 1 + r by omega]
    rw [show 0 + 1 + r = r + 1 by omega] at ih ⊢
    exact ih
  have hQ : (stp2 tab c).Q = Q := by unfold stp2; split <;> (rw [← hc]; rfl)
  have hxs : rv.xs = [] := by have := h.rx.length; rw [← hc] at this; exact List.length_eq_zero_iff.mp this
  have hxl : lv.xs = [] := by have := h.lx.length; rw [← hc] at this; exact List.length_eq_zero_iff.mp this
  have hrr : LexOk b rv (k :: Q) := by have := h.r; rw [← hc] at this; exact this
  obtain ⟨rv1, wtk, hG, hR1⟩ := get_text T K R rv b k Q hxs hb hrr
  obtain ⟨lv1, hGl, hL1⟩ := get_none T K Z lv ⟨⟨[]⟩⟩ hxl (by decide) h.l
  have push : ∀ {b' : Str} {v : LV} {pend Pp : List Nat} (k t : Nat), LexOk b' v pend → IsW Pp v.xs → LexOk b' (v.push (pw k) t) pend ∧ IsW (k :: Pp) (v.push (pw k) t).xs := fun {b' v pend Pp} k t g1 g2 => by
    obtain ⟨tb, hy, ky, p, tp, tt', n, e1, e2, e3, e4, e5⟩ := g1
    exact ⟨⟨tb, hy, ky, p, tp, tt', n + 1, e1, e2, by show v.sp + 1 = _; rw [e3]; rfl, e4, e5⟩, .cons _ g2⟩
  have rgn := sRgN prog w top it 0 r
  have hp1 : ∀ z1 s t, Spec prog w top (rP R (rv1 z1) s t) := fun z1 s t => sP T K R _ s t (by rw [(hR1 z1).2]; simp)
  have hp2 : ∀ z1 s t s' t', Spec prog w top (rP R ((rv1 z1).push s t) s' t') := fun z1 s t s' t' => sP T K R _ s' t' (by show (rv1 z1).xs.length + 1 < 17; rw [(hR1 z1).2]; simp)
  have hp3 : ∀ s t, Spec prog w top (rP Z lv s t) := fun s t => sP T K Z _ s t (by rw [hxl]; simp)
  have happ : ∀ v, Spec prog w top (rApp sn [] 0 v) := fun v => sApp prog w top sn [] 0 v (by simp)
  have hlast : ∀ t v, Spec prog w top (rLast sn ([] ++ [v]) (0 + 1) t v) := fun t v => sLast prog w top sn ([] ++ [v]) (0 + 1) t v (by simp)
  have lv9 : (690 : Nat) ≤ 900 := by decide
  have hP : ∀ z, IsW [] (rv1 z).xs := fun z => by rw [(hR1 z).2]; exact .nil
  let X : TT := ⟨O, R, Z, it, sn, tt, nt, 0, .none, 0, .none, 0, .none, 0, .none, [], 0, rv, rv1, lv, lv1, pw k, wtk, pw 0, fun _ => 0, 0, r, (st : Int), ts, (c.x tab : Int), tx, pw (c.x tab % 4), finG w.params O R Z sn b (run2 tab (r + 1) c) (r + 1)⟩
  by_cases hon : c.x tab / 4 % 2 = 0
  · have e1 : (stp2 tab c).P = [] ∧ (stp2 tab c).L = [c.x tab % 4] := by
      unfold stp2; rw [if_pos hon]
      have : c.P = [] ∧ c.L = [] := by rw [← hc]; exact ⟨rfl, rfl⟩
      rw [this.1, this.2]; exact ⟨rfl, rfl⟩
    rw [decide_eq_true hon] at hrule
    exact spec_chk T _ rfl _ _ _ _ (fun _ _ => rcs_cons (fun _ => rgn) fun z0 => rcs_cons (fun _ => hG) fun z1 => rcs_cons (fun _ => happ _) fun _ => rcs_cons (fun _ => hlast _ _) fun _ => rcs_cons (fun _ => hrule _) fun zr =>
      rcs_cons (fun _ => hp3 _ _) fun _ => rcs_cons (fun _ => by
        have hl0 : IsW [] lv.xs := by rw [hxl]; exact .nil
        obtain ⟨g1, g2⟩ := push (c.x tab % 4) (zr.n 3) h.l hl0
        exact rest _ _ _ _ z0 zr _ true _ (rv1 z1) (lv.push (pw (c.x tab % 4)) (zr.n 3)) ⟨k + 1, wtk z1, rfl⟩ (by rw [hQ]; exact (hR1 z1).1) (by rw [e1.1]; exact hP z1) g1 (by rw [e1.2]; exact g2) (by rw [e1.1]; simp) (by rw [e1.2]; simp)) fun _ => rcs_nil) _ _ _ _ _ lv9 (caller_for _ _ _) (fun _ => by rfl) (by decide) (K.rTwF0 _ X)
  · have e1 : (stp2 tab c).P = [0, c.x tab % 4] ∧ (stp2 tab c).L = [] := by
      unfold stp2; rw [if_neg hon]
      have : c.P = [] ∧ c.L = [] := by rw [← hc]; exact ⟨rfl, rfl⟩
      rw [this.1, this.2]; exact ⟨rfl, rfl⟩
    rw [decide_eq_false hon] at hrule
    exact spec_chk T _ rfl _ _ _ _ (fun _ _ => rcs_cons (fun _ => rgn) fun z0 => rcs_cons (fun _ => hG) fun z1 => rcs_cons (fun _ => happ _) fun _ => rcs_cons (fun _ => hlast _ _) fun _ => rcs_cons (fun _ => hrule _) fun zr =>
      rcs_cons (fun _ => hp1 _ _ _) fun _ => rcs_cons (fun _ => hGl) fun zg => rcs_cons (fun _ => hp2 _ _ _ _ _) fun _ => rcs_cons (fun _ => by
        obtain ⟨g1, g2⟩ := push (c.x tab % 4) (zr.n 3) (hR1 z1).1 (hP z1)
        obtain ⟨g3, g4⟩ := push 0 (zg.n 1 + 1) g1 g2
        exact rest _ _ _ _ z0 zr _ false _ (((rv1 z1).push (pw (c.x tab % 4)) (zr.n 3)).push (pw 0) (zg.n 1 + 1)) (lv1 zg) ⟨0, 0, rfl⟩ (by rw [hQ]; exact g3) (by rw [e1.1]; exact g4) (hL1 zg).1 (by rw [e1.2, (hL1 zg).2]; exact .nil) (by rw [e1.1]; simp) (by rw [e1.2]; simp)) fun _ => rcs_nil) _ _ _ _ _ lv9 (caller_for _ _ _) (fun _ => by rfl) (by decide) (K.rTwF1 _ X)
end
end Mine
end
end
section
open PySem PySem.W PySem.W.X PyProof.Rows PySem.Calls
noncomputable section
namespace Mine
theorem den_builtin {tb : String → Option Builtin} {id : String} {args : Args} {b : Builtin} (h : entryFor tb id = some b) : denote tb (.builtin id args) = b args := by
  unfold denote
  simp only [h]
theorem ext_ne {M : Model} {A : Around} {c : Code} {l x : Addr} {Q : PySem.Fin → Shared → Prop} {E : Value → Shared → Prop} {s : Shared} (hne : l ≠ x) (h : wpOwn M A c (extNe l x) Q E s) : wpOwn M A c (Builtin.List.listExtendWith (.ref l) (.ref x) .none) Q E s := by
  intro Γ p hc hΓ
  have z := h Γ p hc hΓ
  unfold extNe at z
  rw [← PySem.W.ZFast.ze14684505520029207082, ← PySem.W.ZFast.ze8711993805878244202, ← PySem.W.ZFast.ze15112759502256325868, ← PySem.W.ZFast.ze922294955767894045, ← PySem.W.ZFast.ze12377390311714414960, ← PySem.W.ZFast.ze17359229931016689406] at z
  unfold Builtin.List.listExtendWith
  rw [Sem.wp_bind'] at z ⊢
  refine Sem.wp_mono _ _ _ (fun t p1 s1 z1 => ?_) (fun _ _ _ q => q) _ _ z
  have hs : Builtin.List.listSameRef (.ref l) (.ref x) = false := by simp [Builtin.List.listSameRef, hne]
  cases hb : (t == Value.type "list" || t == Value.type "tuple") with
  | true =>
    rw [hb] at z1
    have z1' : Sem.wp M Γ (.unsupported "" : Sem PySem.Fin) (fun a _ s' => Q a s') (fun e _ s' => E e s') p1 s1 := z1
    simp at z1'
  | false =>
    rw [hb] at z1
    rw [hs, Bool.false_or, hb]
    simp only [Bool.false_eq_true, if_false]
    have z2 : Sem.wp M Γ (pyIter (.ref x) >>= fun iter => holding [iter] (Builtin.List.listLengthHint (.ref x)) >>= fun room => PySem.W.X.condFn (Sem PySem.Fin) room (rule "list.extend.makes-room" >>= fun _ => Builtin.List.listTouch (.ref l) >>= fun _ => again (.builtin "list.extend.loop" ⟨[.ref l, iter, .none], []⟩)) (.unsupported "")) (fun a _ s' => Q a s') (fun e _ s' => E e s') p1 s1 := z1
    show Sem.wp M Γ (pyIter (.ref x) >>= fun iter => _) _ _ p1 s1
    rw [Sem.wp_bind'] at z2 ⊢
    refine Sem.wp_mono _ _ _ (fun iter p2 s2 z3 => ?_) (fun _ _ _ q => q) _ _ z2
    show Sem.wp M Γ (holding [iter] (Builtin.List.listLengthHint (.ref x)) >>= fun room => _) _ _ p2 s2
    rw [Sem.wp_bind'] at z3 ⊢
    refine Sem.wp_mono _ _ _ (fun room p3 s3 z4 => ?_) (fun _ _ _ q => q) _ _ z3
    cases room with
    | false =>
      have z4' : Sem.wp M Γ (.unsupported "" : Sem PySem.Fin) (fun a _ s' => Q a s') (fun e _ s' => E e s') p3 s3 := z4
      simp at z4'
    | true =>
      simp only [Bool.true_or, if_true]
      exact z4
section
variable {prog : Program} {w : World} {top : KT} (T : Top top prog w) (K : Checks w.params prog top)
include T K
theorem sLInit (X : LX) (v : LV) (l : Addr) (D : (Nat → Nat) → List Value) (n : Nat) (E2 E1 : Env) (L2 L1 : Addr) (F2 F1 : Obj) (h : Spec prog w top (rLxL X v l [] 2 D n E2 E1 L2 L1 F2 F1)) : Spec prog w top (rLInit X v l D n E2 E1 L2 L1 F2 F1) := by
  have hT : SpecT prog w top (rLxB X v l D n E2 E1 L2 L1 F2 F1) (rLxBT X v l D n E2 E1 L2 L1 F2 F1) :=
    specT_chk T _ rfl _ _ _ _ _ (fun _ _ => rcs_cons (fun _ => h) fun _ => rcs_nil) _ _ _ _ _ (by exact Nat.le_of_ble_eq_true rfl) (by rfl) (fun _ => by rfl) (by decide) (K.rLxB _ X v l D n E2 E1 L2 L1 F2 F1)
  intro A fA ffr s tp hpre nd
  have hne : l ≠ X.x := by
    have h1 := (List.nodup_cons.mp (show (l :: X.x :: [X.dx, X.y, X.dy, X.pb, X.fs, L2, L1]).Nodup from nd)).1
    exact fun e => h1 (by rw [e]; exact .head _)
  have ho : s.heap.get? l = some (lstO [] 0) := (hpre (l, lstO [] 0) (.head _)).1
  have hu : Obj.mapSeq (fun _ => #[]) (lstO [] 0) = lstO [] 0 := by simp [Obj.mapSeq, lstO]
  let s1 : Shared := { s with heap := s.heap.update l (Obj.mapSeq fun _ => #[]) }
  have gl : s1.heap.get? l = some (lstO [] 0) := by rw [← hu]; exact Heap.get?_update_self _ ho (by rw [hu]; rfl)
  have go : ∀ b, l ≠ b → s1.heap.get? b = s.heap.get? b := fun b hb => Heap.get?_update_other _ _ hb
  have hz := hT A fA ffr s1 (fun a ob e => by
      have : a ≠ l := fun q => by have := (hpre (l, lstO [] 0) (.head _)).2; rw [q] at e; rw [this] at e; cases e
      rw [go a (Ne.symm this)]; exact tp a ob e) (fun q hq => by
      rcases List.mem_cons.mp (show q ∈ (l, lstO [] 0) :: (X.at v ++ [(L2, F2), (L1, F1)]) from hq) with rfl | hq
      · exact ⟨gl, (hpre (l, lstO [] 0) (.head _)).2⟩
      · have hm := hpre q (.tail _ hq)
        have : l ≠ q.1 := fun e => (List.nodup_cons.mp (show (l :: (X.at v ++ [(L2, F2), (L1, F1)]).map (·.1)).Nodup from nd)).1 (by rw [e]; exact List.mem_map_of_mem hq)
        exact ⟨by rw [go _ this]; exact hm.1, hm.2⟩) nd
  have hmono := wpOwn_mono (ext_ne hne hz) (Q' := postC prog w A (SP (rLInit X v l D n E2 E1 L2 L1 F2 F1) s)) (E' := postE (SP (rLInit X v l D n E2 E1 L2 L1 F2 F1) s))
  have back : ∀ res s', SP (rLxB X v l D n E2 E1 L2 L1 F2 F1) s1 res s' → SP (rLInit X v l D n E2 E1 L2 L1 F2 F1) s res s' := by
    rintro res s' ⟨x, e1, e2, e3, e4, e5, a1, a2, a3, a4, a5, a6, a7⟩
    have es : s1.heap.objs.size = s.heap.objs.size := Heap.size_after_update ..
    refine ⟨x, e1, e2, e3, e4, e5, a1, by rw [← es]; exact a2, a3, ?_, ?_, by rw [← es]; exact a6, a7⟩
    · intro q hq
      have hq' : q ∈ ((l, lstO [] 0), lstO (D (x.m 0)) n) :: (X.at v ++ [(L2, F2), (L1, F1)]).zip [x.o 0, x.o 1, x.o 2, x.o 3, x.o 4, x.o 5, slo F2 (x.o 6), slo F1 (x.o 7)] := hq
      rcases List.mem_cons.mp hq' with rfl | hq'
      · exact a4 ((l, lstO [] 0), lstO (D (x.m 0)) n) (.head _)
      · exact a4 q (.tail _ hq')
    · intro b ob e nb
      have hb : l ≠ b := nb (l, lstO [] 0) (.head _)
      refine a5 b ob (by rw [go b hb]; exact e) fun q hq => ?_
      rcases List.mem_cons.mp (show q ∈ (l, lstO [] 0) :: (X.at v ++ [(L2, F2), (L1, F1)]) from hq) with rfl | hq
      · exact hb
      · exact nb q (.tail _ hq)
  have hfin := hmono (fun fin s' hp => by
      obtain ⟨_, hp⟩ := hp
      cases fin with
      | done f => exact back _ _ hp
      | again c' => exact ⟨hp.1, codeAny_mono hp.2 fun res s' q => back _ _ q⟩) (fun e s' hp => back _ _ hp)
  refine y_code _ _ _ _ _ _ ?_
  have hden : denote table (.builtin "list.__init__" ⟨[.ref l, .ref X.x], []⟩) = Builtin.«list.__init__» ⟨[.ref l, .ref X.x], []⟩ := den_builtin F.entry_list_init
  show wpOwn _ _ _ (denote table (.builtin "list.__init__" ⟨[.ref l, .ref X.x], []⟩)) _ _ s
  rw [hden]
  show wpOwn _ _ _ (Builtin.List.listItems (.ref l) >>= fun old => Builtin.List.listUpdate (.ref l) (fun _ => #[]) >>= fun _ => letGo old.toList.reverse >>= fun _ => Builtin.List.listExtendWith (.ref l) (.ref X.x) .none) _ _ s
  refine wpOwn_bind (wpOwn_of_wpAny ?_)
  unfold Builtin.List.listItems
  refine wpAny_bind (wpAny_seqItems ho rfl (wpAny_pure ?_))
  refine wpOwn_bind (wpOwn_of_wpAny (wpAny_updateSeq ho rfl ?_ (Nat.zero_le _) (Nat.zero_le _)))
  refine wpOwn_bind (wpOwn_of_wpAny (show wpAny _ _ (pure ()) _ _ _ from wpAny_pure ?_))
  exact hfin
end
end Mine
end
end
section
open PySem PySem.W PySem.W.X PyProof.Rows PySem.Calls
noncomputable section
namespace Mine
/-- what of the program's text is asked -/
structure Facts (top : KT) : Prop where
  k761 : (fnOf top 761).scope.kind ≠ .module
  k804 : (fnOf top 804).scope.kind ≠ .module
  k828 : (fnOf top 828).scope.kind ≠ .module
section
variable {prog : Program} {w : World} {top : KT} (T : Top top prog w) (K : Checks w.params prog top) (FX : Facts top)
include T K FX
/-- the words that list(lexer) takes, one after another -/
theorem lx_loop (X : LX) (b : Str) (hb : b.cps.size < 1000) (l : Addr) (E2 E1 : Env) (L2 L1 : Addr) (F2 F1 : Obj) (hk2 : E2.scope.kind ≠ .module) (hk1 : E1.scope.kind ≠ .module)
    (hf2 : E2.frame = some L2) (hf1 : E1.frame = some L1) (hd2 : ∀ vs, F2.data ≠ .fields vs) (hd1 : ∀ vs, F1.data ≠ .fields vs) :
    ∀ (P Q done : List Nat) (v : LV) (ys : List Value) (k : Nat), LexOk b v Q → IsW P v.xs → IsW done ys → P.length ≤ 16 → done.length + (P ++ Q).length ≤ 23 →
      Spec prog w top (rLxL X v l ys k (wv (done ++ (P ++ Q))) (k + (P ++ Q).length) E2 E1 L2 L1 F2 F1)
  | [], [], done, v, ys, k, hr, hx, hd, hn, hm => by
    have hxs : v.xs = [] := by have := hx.length; exact List.length_eq_zero_iff.mp this
    obtain ⟨v1, s1, s2⟩ := get_none T K X v b hxs hb hr
    have hB : ∀ L t0, SpecT prog w top (rNxB top w.params X v v1 L t0) (rNxBT top w.params X v v1 L t0) := fun L t0 =>
      specT_chk T _ rfl _ _ _ _ _ (fun _ _ => rcs_cons (fun _ => s1) fun _ => rcs_nil) _ _ _ _ _ (by exact Nat.le_of_ble_eq_true rfl) (by rfl) (fun _ => by rfl) (by decide) (K.rNxB _ X v v1 L t0)
    have hE : Spec prog w top (rLxE top w.params X v l ys k E2 E1 L2 L1 F2 F1) :=
      spec_chk T _ rfl _ _ _ _ (fun m tk => rcs_cons (fun _ => sNx T w.params X v v1 (m + 829) tk E2 E1 L2 L1 F2 F1 (hB _ _) FX.k761 hk2 hk1 hf2 hf1 hd2 hd1) fun _ => rcs_nil) _ _ _ _ _ (by exact Nat.le_of_ble_eq_true rfl) (by rfl) (fun _ => by rfl) (by decide) (K.rLxE _ X v l ys k E2 E1 L2 L1 F2 F1)
    obtain ⟨Td, rfl⟩ := hd.of
    refine conv0 hE rfl (Nat.le_refl _) (.inr rfl) rfl fun x => ⟨⟨x.n, fun _ => Td, x.o, x.p, x.b⟩, rfl, rfl, rfl, rfl, ?_⟩
    show [lstO (wv (done ++ ([] ++ [])) Td) (k + 0), _, _, _, _, _, _, _, _] = [lstO (wv done Td) k, _, _, _, _, _, _, _, _]
    rw [List.append_nil, List.append_nil]; rfl
  | [], a :: Q, done, v, ys, k, hr, hx, hd, hn, hm => by
    have hxs : v.xs = [] := by have := hx.length; exact List.length_eq_zero_iff.mp this
    obtain ⟨v1, wtk, s1, s2⟩ := get_text T K X v b a Q hxs hb hr
    have hys := hd.length
    have hS : Spec prog w top (rLxTK X v l (fun i => ys.getD i .none) k v1 (pw a) wtk (wv (done ++ ([] ++ a :: Q))) (k + ([] ++ a :: Q).length) E2 E1 L2 L1 F2 F1 ys.length) := by
      refine spec_chk T _ rfl _ _ _ _ (fun m tk => rcs_cons (fun _ => s1) fun z => rcs_cons (fun _ => ?_) fun _ => rcs_nil) _ _ _ _ _ (by exact Nat.le_of_ble_eq_true rfl) (by rfl) (fun _ => by rfl) (by decide) ((K.rLxTK _ X v l (fun i => ys.getD i .none) k v1 (pw a) wtk (wv (done ++ ([] ++ a :: Q))) (k + ([] ++ a :: Q).length) E2 E1 L2 L1 F2 F1).at ys.length (by simp at hm; omega))
      have ih := lx_loop X b hb l E2 E1 L2 L1 F2 F1 hk2 hk1 hf2 hf1 hd2 hd1 [] Q (done ++ [a]) (v1 z) (ys ++ [Value.str (pw a) (wtk z)]) (k + 1) (s2 z).1 (by rw [(s2 z).2]; exact .nil) (hd.append (.one _ _)) (by simp) (by simp at hm ⊢; omega)
      rw [valsV_of]
      rw [show done ++ [a] ++ ([] ++ Q) = done ++ ([] ++ a :: Q) by simp, show k + 1 + (([] : List Nat) ++ Q).length = k + (([] : List Nat) ++ a :: Q).length by simp; omega] at ih
      exact ih
    unfold rLxTK at hS
    rwa [valsV_of] at hS
  | a :: P, Q, done, v, ys, k, hr, hx, hd, hn, hm => by
    generalize hxs : v.xs = xs at hx
    cases hx with
    | @cons _ _ xs' t h2 =>
      have s1 := get_pushed T K X v (pw a) t xs' hxs (by have := h2.length; simp at hn; omega)
      have hys := hd.length
      have hr' : LexOk b { v with sp := v.sp + 1, xs := xs' } Q := by
        obtain ⟨tb, hy, ky, p, tp, tt', n, e1, e2, e3, e4, e5⟩ := hr
        exact ⟨tb, hy, ky, p, tp, tt', n + 1, e1, e2, by show v.sp + 1 = _; rw [e3]; rfl, e4, e5⟩
      have hS : Spec prog w top (rLxTK X v l (fun i => ys.getD i .none) k (fun _ => { v with sp := v.sp + 1, xs := xs' }) (pw a) (fun _ => t) (wv (done ++ (a :: P ++ Q))) (k + (a :: P ++ Q).length) E2 E1 L2 L1 F2 F1 ys.length) := by
        refine spec_chk T _ rfl _ _ _ _ (fun m tk => rcs_cons (fun _ => s1) fun z => rcs_cons (fun _ => ?_) fun _ => rcs_nil) _ _ _ _ _ (by exact Nat.le_of_ble_eq_true rfl) (by rfl) (fun _ => by rfl) (by decide) ((K.rLxTK _ X v l (fun i => ys.getD i .none) k (fun _ => { v with sp := v.sp + 1, xs := xs' }) (pw a) (fun _ => t) (wv (done ++ (a :: P ++ Q))) (k + (a :: P ++ Q).length) E2 E1 L2 L1 F2 F1).at ys.length (by simp at hm; omega))
        have ih := lx_loop X b hb l E2 E1 L2 L1 F2 F1 hk2 hk1 hf2 hf1 hd2 hd1 P Q (done ++ [a]) { v with sp := v.sp + 1, xs := xs' } (ys ++ [Value.str (pw a) t]) (k + 1) hr' h2 (hd.append (.one _ _)) (by simp at hn; omega) (by simp at hm ⊢; omega)
        rw [valsV_of]
        rw [show done ++ [a] ++ (P ++ Q) = done ++ (a :: P ++ Q) by simp, show k + 1 + (P ++ Q).length = k + (a :: P ++ Q).length by simp; omega] at ih
        exact ih
      unfold rLxTK at hS
      rwa [valsV_of] at hS
theorem sLs (X : LX) (b : Str) (hb : b.cps.size < 1000) (E2 E1 : Env) (L2 L1 : Addr) (F2 F1 : Obj) (hk2 : E2.scope.kind ≠ .module) (hk1 : E1.scope.kind ≠ .module)
    (hf2 : E2.frame = some L2) (hf1 : E1.frame = some L1) (hd2 : ∀ vs, F2.data ≠ .fields vs) (hd1 : ∀ vs, F1.data ≠ .fields vs) (P Q : List Nat) (v : LV) (hr : LexOk b v Q) (hx : IsW P v.xs) (hn : P.length ≤ 16) (hm : (P ++ Q).length ≤ 23) :
    Spec prog w top (rLs X v (wv (P ++ Q)) (2 + (P ++ Q).length) E2 E1 L2 L1 F2 F1) :=
  spec_chk T _ rfl _ _ _ _ (fun m tk => rcs_cons (fun _ => sLInit T K X v _ _ _ E2 E1 L2 L1 F2 F1 (lx_loop T K FX X b hb _ E2 E1 L2 L1 F2 F1 hk2 hk1 hf2 hf1 hd2 hd1 P Q [] v [] 2 hr hx .nil hn (by simpa using hm))) fun _ => rcs_nil)
    _ _ _ _ _ (by exact Nat.le_of_ble_eq_true rfl) (by rfl) (fun _ => by rfl) (by decide) (K.rLs _ X v (wv (P ++ Q)) (2 + (P ++ Q).length) E2 E1 L2 L1 F2 F1)
end
end Mine
end
end
section
open PySem PySem.W PySem.W.X PyProof.Rows PySem.Calls
noncomputable section
namespace Mine
theorem txt_tail {b : Str} {p k : Nat} {Q : List Nat} (h : Txt b p (k :: Q)) : Txt b (b.cps.size - tl Q) Q := by
  cases Q with
  | nil => show b.cps.size = b.cps.size - 0; omega
  | cons k' r =>
    have h2 : Txt b (p + (pq k).length + 1) (k' :: r) := h.2.2
    rw [← txt_pos h2]; exact h2
theorem run2_bounds (tab : Nat → Nat) (b : Str) : ∀ (n : Nat) (c : C2) (k q : Nat), c.P.length ≤ k + 1 → c.L.length ≤ k → c.Q.length ≤ q → Txt b (b.cps.size - tl c.Q) c.Q →
    (run2 tab n c).P.length ≤ k + n + 1 ∧ (run2 tab n c).L.length ≤ k + n ∧ (run2 tab n c).Q.length ≤ q ∧ Txt b (b.cps.size - tl (run2 tab n c).Q) (run2 tab n c).Q
  | 0, c, k, q, h1, h2, h3, h4 => ⟨h1, h2, h3, h4⟩
  | n + 1, c, k, q, h1, h2, h3, h4 => by
    have hQ : (stp2 tab c).Q = c.Q' := by unfold stp2; split <;> rfl
    have hQ' : c.Q'.length ≤ c.Q.length ∧ Txt b (b.cps.size - tl c.Q') c.Q' := by
      unfold C2.Q'
      split
      · cases hq : c.Q with
        | nil => rw [hq] at h4; exact ⟨Nat.le_refl _, h4⟩
        | cons a l => rw [hq] at h4; exact ⟨by simp, txt_tail h4⟩
      · exact ⟨Nat.le_refl _, h4⟩
    have := run2_bounds tab b n (stp2 tab c) (k + 1) q (by unfold stp2; split <;> simp <;> omega) (by unfold stp2; split <;> simp <;> omega) (by rw [hQ]; omega) (by rw [hQ]; exact hQ'.2)
    refine ⟨by have := this.1; show (run2 tab n (stp2 tab c)).P.length ≤ _; omega, by have := this.2.1; show (run2 tab n (stp2 tab c)).L.length ≤ _; omega, this.2.2.1, this.2.2.2⟩
section
variable {prog : Program} {w : World} {top : KT} (T : Top top prog w) (K : Checks w.params prog top) (FX : Facts top)
include T K FX
omit FX in
theorem sShNew (b : Str) (tb : Nat) : Spec prog w top (rShNew b tb) :=
  spec_chk T _ rfl _ _ _ _ (fun _ _ => rcs_nil) _ _ _ _ _ (by exact Nat.le_of_ble_eq_true rfl) (by rfl) (fun _ => by rfl) (by decide) (K.rShNew _ b tb)
noncomputable def two0 (k : Nat) (Q : List Nat) : C2 := ⟨[], 0, [], [], k :: Q⟩
noncomputable def ouOf (b : Str) (tb : Nat) (tab : Addr) (tt : List Value) (nt ts : Nat) (c : C2) (E1 : Env) (L1 : Addr) (F1 : Obj) : OU :=
  { b := b, tb := tb, tab := tab, tt := tt, nt := nt, st := 12, ts := ts, SS := wv c.seen, q := 12, SF := (c.st : Int), RV := fun m => lexD b c.P c.Q (fun i => m (2 * i + 4)), LE := fun m => lexD ⟨⟨[]⟩⟩ c.L [] (fun i => m (2 * i + 5)),
    V := fun i m => dV i (m 3), DL := wv (c.L ++ []), DR := wv (c.P ++ c.Q), nl := 2 + (c.L ++ []).length, nr := 2 + (c.P ++ c.Q).length, E1 := E1, L1 := L1, F1 := F1 }
theorem sTwo (tab : Nat → Nat) (ht : ∀ i, tab i < 24) (b : Str) (hb : b.cps.size < 1000) (k : Nat) (Q : List Nat) (hQ : ∀ a ∈ k :: Q, a < 4) (hn : (k :: Q).length ≤ 7) (hx : Txt b 0 (k :: Q)) (tb : Nat) (ta : Addr) (tt : List Value) (nt ts : Nat)
    (htt : ∀ i, i < 9 → ∃ tx, tt[i]? = some (.int (tab i : Int) tx)) (E1 : Env) (L1 : Addr) (F1 : Obj) (hk1 : E1.scope.kind ≠ .module) (hf1 : E1.frame = some L1) (hd1 : ∀ vs, F1.data ≠ .fields vs) :
    Spec prog w top (rTwo top w.params (ouOf b tb ta tt nt ts (run2 tab 12 (two0 k Q)) E1 L1 F1)) := by
  have hb0 : Txt b (b.cps.size - tl (k :: Q)) (k :: Q) := by rw [← txt_pos hx]; exact hx
  obtain ⟨b1, b2, b3, b4⟩ := run2_bounds tab b 12 (two0 k Q) 0 7 (by show 0 ≤ 1; decide) (by show 0 ≤ 0; decide) hn hb0
  generalize hc : run2 tab 12 (two0 k Q) = c at b1 b2 b3 b4
  refine spec_chk T _ rfl _ _ _ _ (fun m tk => ?_) _ _ _ _ _ (by exact Nat.le_of_ble_eq_true rfl) (by rfl) (fun _ => by rfl) (by decide) (K.rTwo _ (ouOf b tb ta tt nt ts c E1 L1 F1))
  refine rcs_cons (fun _ => sShNew T K _ _) fun y => rcs_cons (fun _ => sShNew T K _ _) fun z => rcs_cons (fun _ => sRgI _ _ _ _ _ _ _ _ (by show 12 < 1000; decide)) fun g => rcs_cons (fun _ => ?_) fun o => ?_
  · have h0 : TwoOk b (two0 k Q) (lexV z b tb) (lexV y ⟨⟨[]⟩⟩ (tk + 3)) [] 0 :=
      ⟨⟨by show 0 < 3; decide, by intro a ha; simp [two0] at ha, by intro a ha; simp [two0] at ha, hQ⟩, ⟨tb, hashAt (z.o 1), kts z 70, 0, z.n 10, z.n 8, 0, rfl, rfl, rfl, hx, .inl ⟨_, rfl⟩⟩, .nil,
        ⟨tk + 3, hashAt (y.o 1), kts y 70, 0, y.n 10, y.n 8, 0, rfl, rfl, rfl, rfl, .inl ⟨_, rfl⟩⟩, .nil, .nil, by show 0 ≤ 1; decide, by show 0 ≤ 0; decide, rfl⟩
    have := two_first T K tab ht b hb (ftOf (ouOf b tb ta tt nt ts c E1 L1 F1) m tk y z) (lexOf z) (lexOf y) (g.n 2) (z.n 0 + 4) tt nt htt 11 0 (z.n 1 + 2) k Q (lexV z b tb) (lexV y ⟨⟨[]⟩⟩ (tk + 3)) (by decide) h0
    rw [show (⟨[], 0, [], [], k :: Q⟩ : C2) = two0 k Q from rfl, show 11 + 1 = 12 from rfl, hc] at this
    exact this
  · have hlw : ∀ (ws : List Nat) (Tk : Nat → Nat), (wv ws Tk).length = ws.length := fun ws Tk => (isW_wv ws Tk).length
    refine rcs_cons (fun _ => ?_) fun dl => rcs_cons (fun _ => ?_) fun e => rcs_cons (fun _ => ?_) fun dr => rcs_nil
    · refine sLs T K FX (lexOf y) ⟨⟨[]⟩⟩ (by decide) (envTw top (m + 829)) _ (m + 829) _ _ _ FX.k804 hk1 rfl hf1 ?_ hd1 c.L [] _ (lexD_ok rfl) (isW_wv _ _) (by omega) (by simp; omega)
      intro vs h; cases h
    · exact sBack _ _ _ _ _ _ _ _ (by show (wv (c.L ++ []) (dl.m 0)).length < 1000; rw [hlw]; simp; omega)
    · refine sLs T K FX (lexOf z) b hb (envTw top (m + 829)) _ (m + 829) _ _ _ FX.k804 hk1 rfl hf1 ?_ ?_ c.P c.Q _ (lexD_ok b4) (isW_wv _ _) (by omega) (by simp; omega)
      · intro vs h; cases h
      · intro vs h; exact hd1 vs h
end
end Mine
end
end
section
open PySem PySem.W PySem.W.X PyProof.Rows PySem.Calls
noncomputable section
namespace Mine
/-! the netrc lexer -/
noncomputable def TxN (b : Str) : Nat → List Nat → Prop
  | _, [] => True
  | p, k :: r => k < 4 ∧ Has b p (32 :: pq k) ∧ TxN b (p + 1 + (pq k).length) r
theorem txn_of {b : Str} : ∀ {p k : Nat} {r : List Nat}, Txt b p (k :: r) → k < 4 ∧ Has b p (pq k) ∧ TxN b (p + (pq k).length) r
  | p, k, [], h => ⟨h.1, h.2.1, trivial⟩
  | p, k, k' :: r, h => by
    have h2 : Txt b (p + (pq k).length + 1) (k' :: r) := h.2.2
    obtain ⟨g1, g2, g3⟩ := txn_of h2
    have hl : Has b p (pq k) := fun i c hi => h.2.1 i c (by rw [List.getElem?_append_left (by have := (List.getElem?_eq_some_iff.mp hi).1; exact this)]; exact hi)
    refine ⟨h.1, hl, g1, fun i c hi => ?_, by rw [show p + (pq k).length + 1 + (pq k').length = p + (pq k).length + 1 + (pq k').length from rfl]; exact g3⟩
    cases i with
    | zero => simp at hi; subst hi; exact h.2.1 _ _ (by simp)
    | succ i => rw [show p + (pq k).length + (i + 1) = p + (pq k).length + 1 + i by omega]; exact g2 i c (by simpa using hi)
theorem pq_no10 : ∀ k, ∀ c ∈ 32 :: pq k, c ≠ 10 := by
  intro k
  unfold pq
  split <;> decide
noncomputable def rotV {α : Type} : Nat → List α → List α
  | 0, xs => xs
  | _ + 1, [] => []
  | n + 1, x :: xs => rotV n (xs ++ [x])
theorem rotV_app {α : Type} : ∀ (a b : List α), rotV a.length (a ++ b) = b ++ a
  | [], b => by simp [rotV]
  | x :: a, b => by
    show rotV a.length ((a ++ b) ++ [x]) = _
    rw [List.append_assoc, rotV_app a (b ++ [x])]
    simp
theorem IsW.rot : ∀ (n : Nat) {ws : List Nat} {xs : List Value}, IsW ws xs → IsW (rotV n ws) (rotV n xs)
  | 0, _, _, h => h
  | n + 1, _, _, .nil => .nil
  | n + 1, _, _, .cons t h => IsW.rot n (h.append (.one _ t))
theorem caller_comp1 (e : Expr) (d : Nat) (a b : Value) (env : Env) : (Code.compLoop e d a b env).isCaller = false := rfl
section
variable {prog : Program} {w : World} {top : KT} (T : Top top prog w) (K : Checks w.params prog top)
include T K
theorem sGive (W : NX) (p tp t c : Nat) (h1 : W.b.cps[p]? = some c) (h2 : 2 ≤ W.b.cps.size) : Spec prog w top (rGive top W p tp t c) :=
  spec_chk T _ rfl _ _ _ _ (fun _ _ => rcs_cons (fun _ => sSign _ _ _ _ _ _ _ _ _ _ _ rfl h1 h2) fun _ => rcs_nil) _ _ _ _ _ (by exact Nat.le_of_ble_eq_true rfl) (by rfl) (fun _ => by rfl) (by decide) (K.rGive _ W p tp t c)
theorem sRdc (W : NX) (p tp c : Nat) (h1 : W.b.cps[p]? = some c) (h2 : 2 ≤ W.b.cps.size) (h3 : c ≠ 10) : Spec prog w top (rRdc top W p tp c) :=
  spec_chk T _ rfl _ _ _ _ (fun _ _ => rcs_cons (fun _ => sGive T K W _ _ _ _ h1 h2) fun _ => rcs_cons (fun _ => sSeq _ _ _ _ _ _ _ _ (by simp [h3])) fun _ => rcs_nil) _ _ _ _ _ (by exact Nat.le_of_ble_eq_true rfl) (by rfl) (fun _ => by rfl) (by decide) (K.rRdc _ W p tp c)
theorem rdN_ok (W : NX) (h2 : 2 ≤ W.b.cps.size) : ∀ {cs : List Nat} {p tp : Nat}, Has W.b p cs → (∀ c ∈ cs, c ≠ 10) → RcsOk prog w top (rdN top W cs p tp)
  | [], _, _, _, _ => rcs_nil
  | c :: cs, p, tp, h, h10 => rcs_cons (fun _ => sRdc T K W _ _ _ h.head h2 (h10 c (.head _))) fun z => rdN_ok W h2 h.tail fun d hd => h10 d (.tail _ hd)
theorem sNA (k : Nat) (hk : k < 4) (W : NX) (p tp kp : Nat) (h : Has W.b p (pq k)) (h2 : 2 ≤ W.b.cps.size) : Spec prog w top (rNTk top W p tp kp (p + (pq k).length) (pw k)) := by
  have hR : ∀ m tk, RcsOk prog w top (rNTokR top W p tp kp (pq k) m tk) := fun _ _ => rdN_ok T K W h2 h fun c hc => pq_no10 k c (.tail _ hc)
  match k, hk with
  | 0, _ => exact spec_chk T _ rfl _ _ _ _ hR _ _ _ _ _ (by exact Nat.le_of_ble_eq_true rfl) (by rfl) (fun _ => by rfl) (by decide) (K.rNA0 _ W p tp kp)
  | 1, _ => exact spec_chk T _ rfl _ _ _ _ hR _ _ _ _ _ (by exact Nat.le_of_ble_eq_true rfl) (by rfl) (fun _ => by rfl) (by decide) (K.rNA1 _ W p tp kp)
  | 2, _ => exact spec_chk T _ rfl _ _ _ _ hR _ _ _ _ _ (by exact Nat.le_of_ble_eq_true rfl) (by rfl) (fun _ => by rfl) (by decide) (K.rNA2 _ W p tp kp)
  | 3, _ => exact spec_chk T _ rfl _ _ _ _ hR _ _ _ _ _ (by exact Nat.le_of_ble_eq_true rfl) (by rfl) (fun _ => by rfl) (by decide) (K.rNA3 _ W p tp kp)
theorem sNB (k : Nat) (hk : k < 4) (W : NX) (p tp kp : Nat) (h : Has W.b p (32 :: pq k)) (h2 : 2 ≤ W.b.cps.size) : Spec prog w top (rNTk top W p tp kp (p + (32 :: pq k).length) (pw k)) := by
  have hR : ∀ m tk, RcsOk prog w top (rNTokR top W p tp kp (32 :: pq k) m tk) := fun _ _ => rdN_ok T K W h2 h fun c hc => pq_no10 k c hc
  match k, hk with
  | 0, _ => exact spec_chk T _ rfl _ _ _ _ hR _ _ _ _ _ (by exact Nat.le_of_ble_eq_true rfl) (by rfl) (fun _ => by rfl) (by decide) (K.rNB0 _ W p tp kp)
  | 1, _ => exact spec_chk T _ rfl _ _ _ _ hR _ _ _ _ _ (by exact Nat.le_of_ble_eq_true rfl) (by rfl) (fun _ => by rfl) (by decide) (K.rNB1 _ W p tp kp)
  | 2, _ => exact spec_chk T _ rfl _ _ _ _ hR _ _ _ _ _ (by exact Nat.le_of_ble_eq_true rfl) (by rfl) (fun _ => by rfl) (by decide) (K.rNB2 _ W p tp kp)
  | 3, _ => exact spec_chk T _ rfl _ _ _ _ hR _ _ _ _ _ (by exact Nat.le_of_ble_eq_true rfl) (by rfl) (fun _ => by rfl) (by decide) (K.rNB3 _ W p tp kp)
theorem sNPop (W : NX) (xs : List Value) (s : Str) (t k : Nat) (h : xs.length < 800) : Spec prog w top (rNPop W xs s t k) :=
  spec_chk T _ rfl _ _ _ _ (fun _ _ => rcs_cons (fun _ => sLenB _ _ _ _ _ _ (by simp; omega)) fun _ => rcs_cons (fun _ => sPop _ _ _ _ _ _ _ _ (by omega)) fun _ => rcs_nil) _ _ _ _ _ (by exact Nat.le_of_ble_eq_true rfl) (by rfl) (fun _ => by rfl) (by decide) (K.rNPop _ W xs s t k)
theorem sNPush (W : NX) (xs : List Value) (s : Str) (t k : Nat) (h : xs.length < 800) : Spec prog w top (rNPush W xs s t k) :=
  spec_chk T _ rfl _ _ _ _ (fun _ _ => rcs_cons (fun _ => sApp _ _ _ _ _ _ _ (by omega)) fun _ => rcs_nil) _ _ _ _ _ (by exact Nat.le_of_ble_eq_true rfl) (by rfl) (fun _ => by rfl) (by decide) (K.rNPush _ W xs s t k)
/-! the round -/
theorem rd_loop (W : NX) (it L t0 t1 much tm : Nat) : ∀ (r : Nat) (ws : List Nat) (xs : List Value) (k c t2 : Nat) (kv : Int) (tv : Nat), IsW ws xs → ws ≠ [] → ws.length < 700 →
    Spec prog w top (rRdL top w.params W it L t0 t1 much tm [eP w.params "k" t2 (.int kv tv)] 3 xs k c r (rotV r xs) (k + 2 * r))
  | 0, ws, xs, k, c, t2, kv, tv, h, hn, hl =>
    spec_chk T _ rfl _ _ _ _ (fun _ _ => rcs_nil) _ _ _ _ _ (by exact Nat.le_of_ble_eq_true rfl) (caller_for _ _ _) (fun _ => by rfl) (by decide) (K.rRdLE _ W it L t0 t1 much tm [eP w.params "k" t2 (.int kv tv)] 3 xs k c)
  | r + 1, _, _, k, c, t2, kv, tv, .nil, hn, hl => absurd rfl hn
  | r + 1, _, _, k, c, t2, kv, tv, .cons (k := a) (ws := ws) (xs := xs) t h, hn, hl => by
    have hxs := h.length
    simp at hl
    refine spec_chk T _ rfl _ _ _ _ (fun _ _ => rcs_cons (fun _ => sRgN _ _ _ _ _ _) fun z => rcs_cons (fun _ => sNPop T K W _ _ _ _ (by omega)) fun _ => rcs_cons (fun _ => sNPush T K W _ _ _ _ (by omega)) fun _ => rcs_cons (fun _ => ?_) fun _ => rcs_nil)
      _ _ _ _ _ (by exact Nat.le_of_ble_eq_true rfl) (caller_for _ _ _) (fun _ => by rfl) (by decide) (K.rRdLT _ W it L t0 t1 t2 much tm kv tv (pw a) t xs k c r (rotV (r + 1) (.str (pw a) t :: xs)) (k + 2 * (r + 1)))
    have ih := rd_loop W it L t0 t1 much tm r (ws ++ [a]) (xs ++ [.str (pw a) t]) (k + 2) (c + 1) t2 (Int.ofNat c) (z.n 2) (h.append (.one _ _)) (by simp) (by simp; omega)
    rw [show k + 2 + 2 * r = k + 2 * (r + 1) by omega] at ih
    exact ih
theorem rd_first (W : NX) (it L t0 t1 much tm : Nat) (r : Nat) (ws : List Nat) (xs : List Value) (k : Nat) (h : IsW ws xs) (hn : ws ≠ []) (hl : ws.length < 700) :
    Spec prog w top (rRdL top w.params W it L t0 t1 much tm [] 2 xs k 0 r (rotV r xs) (k + 2 * r)) := by
  cases r with
  | zero => exact spec_chk T _ rfl _ _ _ _ (fun _ _ => rcs_nil) _ _ _ _ _ (by exact Nat.le_of_ble_eq_true rfl) (caller_for _ _ _) (fun _ => by rfl) (by decide) (K.rRdLE _ W it L t0 t1 much tm [] 2 xs k 0)
  | succ r =>
    cases h with
    | nil => exact absurd rfl hn
    | @cons a ws xs t h =>
      have hxs := h.length
      simp at hl
      refine spec_chk T _ rfl _ _ _ _ (fun _ _ => rcs_cons (fun _ => sRgN _ _ _ _ _ _) fun z => rcs_cons (fun _ => sNPop T K W _ _ _ _ (by omega)) fun _ => rcs_cons (fun _ => sNPush T K W _ _ _ _ (by omega)) fun _ => rcs_cons (fun _ => ?_) fun _ => rcs_nil)
        _ _ _ _ _ (by exact Nat.le_of_ble_eq_true rfl) (caller_for _ _ _) (fun _ => by rfl) (by decide) (K.rRdLF _ W it L t0 t1 much tm (pw a) t xs k 0 r (rotV (r + 1) (.str (pw a) t :: xs)) (k + 2 * (r + 1)))
      have ih := rd_loop T K W it L t0 t1 much tm r (ws ++ [a]) (xs ++ [.str (pw a) t]) (k + 2) (0 + 1) (z.n 1) (Int.ofNat 0) (z.n 2) (h.append (.one _ _)) (by simp) (by simp; omega)
      rw [show k + 2 + 2 * r = k + 2 * (r + 1) by omega] at ih
      exact ih
theorem sRound (W : NX) (much t : Nat) (ws : List Nat) (xs : List Value) (k : Nat) (h : IsW ws xs) (hn : ws ≠ []) (hl : ws.length < 700) (hm : much < 1000) : Spec prog w top (rRound top w.params W xs k much t (rotV much xs) (k + 2 * much)) :=
  spec_chk T _ rfl _ _ _ _ (fun _ _ => rcs_cons (fun _ => sRgI _ _ _ _ _ _ _ _ hm) fun z => rcs_cons (fun _ => rd_first T K W _ _ _ _ _ _ _ ws xs k h hn hl) fun _ => rcs_nil)
    _ _ _ _ _ (by exact Nat.le_of_ble_eq_true rfl) (by rfl) (fun _ => by rfl) (by decide) (K.rRound _ W xs k much t (rotV much xs) (k + 2 * much))
end
end Mine
end
end
section
open PySem PySem.W PySem.W.X PyProof.Rows PySem.Calls
noncomputable section
namespace Mine
theorem spec_chk2T {p : Program} {w : World} {top : KT} (T : Top top p w) (hq : w.params.followText "comprehension-iter-twice" = true) (r : Rc) (fuel o : Nat) (R : Nat → Nat → Rcs) (hR : ∀ m tk, RcsOk p w top (R m tk)) (is : List Nat)
    (f : Nat → Nat → (Nat → Ov) → Nat → Nat → Nat → Nat) (g : (Nat → Ov) → Nat → Nat → Nat) (h : (Nat → Ov) → Led → Nat → Obj) (u : (Nat → Ov) → Ov) (hl : r.lvl ≤ 900) (hc : r.code.isCaller = false) (hlen : ∀ x, (r.post x).length = r.pre.length) (nd : is.Nodup)
    (H : Chk2 true w.params p top fuel r o R is (mkX f g h u)) : Spec p w top r := by
  have H' : ChkP (fol2 true w.params) p top fuel r o R is (mkX f g h u) := H
  rw [fol2_self _ _ hq] at H'
  exact spec_chkP T r fuel o R hR is f g h u hl hc hlen nd H'
theorem spec_chk2F {p : Program} {w : World} {top : KT} (T : Top top p w) (hq : w.params.followText "comprehension-iter-twice" = false) (r : Rc) (fuel o : Nat) (R : Nat → Nat → Rcs) (hR : ∀ m tk, RcsOk p w top (R m tk)) (is : List Nat)
    (f : Nat → Nat → (Nat → Ov) → Nat → Nat → Nat → Nat) (g : (Nat → Ov) → Nat → Nat → Nat) (h : (Nat → Ov) → Led → Nat → Obj) (u : (Nat → Ov) → Ov) (hl : r.lvl ≤ 900) (hc : r.code.isCaller = false) (hlen : ∀ x, (r.post x).length = r.pre.length) (nd : is.Nodup)
    (H : Chk2 false (fol (w.params.followText "special-get-raises") w.params) p top fuel r o R is (mkX f g h u)) : Spec p w top r := by
  have H' : ChkP (fol2 false (fol (w.params.followText "special-get-raises") w.params)) p top fuel r o R is (mkX f g h u) := H
  rw [fol_self _ _ rfl, fol2_self _ _ hq] at H'
  exact spec_chkP T r fuel o R hR is f g h u hl hc hlen nd H'
noncomputable def pfN : Nat → List Nat → Nat
  | p, [] => p
  | p, k :: r => pfN (p + (32 :: pq k).length) r
section
variable {prog : Program} {w : World} {top : KT} (T : Top top prog w) (K : Checks w.params prog top)
include T K
/-! the words read -/
theorem c1_loop (W : NX) (h2 : 2 ≤ W.b.cps.size) (it L ns acc cl : Addr) (kp : Nat) : ∀ (pend done : List Nat) (ys : List Value) (k p tp c t2 : Nat) (tv : Nat), TxN W.b p pend → IsW done ys → ys.length + pend.length < 900 → c ≠ 0 →
    Spec prog w top (rC1 (loopC1 top it L ns acc cl) top w.params W it ns acc cl [eP w.params "k" t2 (.int (Int.ofNat (c - 1)) tv)] 1 ys k kp p tp c pend.length
      (fun z => dicO [eP w.params "k" (z 9 1) (.int (Int.ofNat (c + pend.length - 1)) (z 9 2))] 1) (fun z => lstO (wv (done ++ pend) (z 0)) (k + pend.length)) (pfN p pend))
  | [], done, ys, k, p, tp, c, t2, tv, ht, hd, hl, hc => by
    have hE := spec_chk T _ rfl _ _ _ _ (fun _ _ => rcs_nil) _ _ _ _ _ (by exact Nat.le_of_ble_eq_true rfl) (by rfl) (fun _ => by rfl) (by decide) (K.rC1E _ W it L ns acc cl [eP w.params "k" t2 (.int (Int.ofNat (c - 1)) tv)] 1 ys k kp p tp c)
    obtain ⟨Td, rfl⟩ := hd.of
    refine conv0 hE rfl (Nat.le_refl _) (.inl rfl) rfl fun x => ⟨⟨x.n, fun i => match i with | 9 => (fun j => match j with | 0 => x.m 9 0 | 1 => t2 | _ => tv) | _ => Td, x.o, x.p, x.b⟩, rfl, rfl, rfl, rfl, ?_⟩
    show _ :: dicO [eP w.params "k" t2 (.int (Int.ofNat (c + 0 - 1)) tv)] 1 :: lstO (wv (done ++ []) Td) (k + 0) :: _ = _ :: dicO [eP w.params "k" t2 (.int (Int.ofNat (c - 1)) tv)] 1 :: lstO (wv done Td) k :: _
    rw [List.append_nil]; rfl
  | a :: pend, done, ys, k, p, tp, c, t2, tv, ht, hd, hl, hc => by
    obtain ⟨ha, hh, hr⟩ := ht
    simp at hl
    refine spec_chk T _ rfl _ _ _ _ (fun _ _ => rcs_cons (fun _ => sRgN _ _ _ _ _ _) fun z => rcs_cons (fun _ => sNB T K a ha W _ _ _ hh h2) fun y => rcs_cons (fun _ => sApp _ _ _ _ _ _ _ (by omega)) fun _ => rcs_cons (fun _ => ?_) fun _ => rcs_nil)
      _ _ _ _ _ (by exact Nat.le_of_ble_eq_true rfl) (by rfl) (fun _ => by rfl) (by decide) (K.rC1T _ W it L ns acc cl ys k kp p tp c pend.length (fun z => dicO [eP w.params "k" (z 9 1) (.int (Int.ofNat (c + (a :: pend).length - 1)) (z 9 2))] 1) (fun z => lstO (wv (done ++ a :: pend) (z 0)) (k + (a :: pend).length)) (p + (32 :: pq a).length) (pfN p (a :: pend)) (pw a) t2 (Int.ofNat (c - 1)) tv)
    have ih := c1_loop W h2 it L ns acc cl kp pend (done ++ [a]) (ys ++ [.str (pw a) (y.n 3)]) (k + 1) (p + (32 :: pq a).length) (y.n 2) (c + 1) t2 (z.n 2) (by rw [show p + (32 :: pq a).length = p + 1 + (pq a).length by simp only [List.length_cons]; omega]; exact hr) (hd.append (.one _ _)) (by simp; omega) (by omega)
    rw [show done ++ [a] ++ pend = done ++ a :: pend by simp, show k + 1 + pend.length = k + (a :: pend).length by simp; omega, show c + 1 + pend.length - 1 = c + (a :: pend).length - 1 by simp only [List.length_cons]; omega] at ih
    exact ih
theorem c1_first (W : NX) (h2 : 2 ≤ W.b.cps.size) (it L ns acc cl : Addr) (kp : Nat) (a : Nat) (pend : List Nat) (tp : Nat) (ha : a < 4) (hh : Has W.b 0 (pq a)) (hr : TxN W.b (0 + (pq a).length) pend) (hl : pend.length < 800) :
    Spec prog w top (rC1 (loopC1 top it L ns acc cl) top w.params W it ns acc cl [] 0 [] 0 kp 0 tp 0 (a :: pend).length
      (fun z => dicO [eP w.params "k" (z 9 1) (.int (Int.ofNat ((a :: pend).length - 1)) (z 9 2))] 1) (fun z => lstO (wv (a :: pend) (z 0)) (a :: pend).length) (pfN (0 + (pq a).length) pend)) := by
  refine spec_chk T _ rfl _ _ _ _ (fun _ _ => rcs_cons (fun _ => sRgN _ _ _ _ _ _) fun z => rcs_cons (fun _ => sNA T K a ha W _ _ _ hh h2) fun y => rcs_cons (fun _ => sApp _ _ _ _ _ _ _ (by simp)) fun _ => rcs_cons (fun _ => ?_) fun _ => rcs_nil)
    _ _ _ _ _ (by exact Nat.le_of_ble_eq_true rfl) (by rfl) (fun _ => by rfl) (by decide) (K.rC1F _ W it L ns acc cl [] 0 kp 0 tp 0 pend.length (fun z => dicO [eP w.params "k" (z 9 1) (.int (Int.ofNat ((a :: pend).length - 1)) (z 9 2))] 1) (fun z => lstO (wv (a :: pend) (z 0)) (a :: pend).length) (0 + (pq a).length) (pfN (0 + (pq a).length) pend) (pw a))
  have ih := c1_loop T K W h2 it L ns acc cl kp pend [a] ([] ++ [.str (pw a) (y.n 3)]) (0 + 1) (0 + (pq a).length) (y.n 2) (0 + 1) (z.n 1) (z.n 2) hr (.one _ _) (by simp; omega) (by omega)
  rw [show 0 + 1 + pend.length = (a :: pend).length by simp; omega, show [a] ++ pend = a :: pend from rfl] at ih
  exact ih
theorem sC1B (W : NX) (it L ns acc cl : Addr) (ys : List Value) (k kp p tp c r : Nat) (Ns Ac : MM → Obj) (pf : Nat) (h : Spec prog w top (rC1 (loopC1 top it L ns acc cl) top w.params W it ns acc cl [] 0 ys k kp p tp c r Ns Ac pf)) :
    Spec prog w top (rC1B top w.params W it L ns acc cl ys k kp p tp c r Ns Ac pf) := by
  have hR : ∀ m tk, RcsOk prog w top (rC1BR top w.params W it L ns acc cl ys k kp p tp c r Ns Ac pf m tk) := fun _ _ => rcs_cons (fun _ => h) fun _ => rcs_nil
  cases hq : w.params.followText "comprehension-iter-twice" with
  | false => exact spec_chk2F T hq _ _ _ _ hR _ _ _ _ _ (by exact Nat.le_of_ble_eq_true rfl) (by rfl) (fun _ => by rfl) (by decide) (K.rC1B2 _ W it L ns acc cl ys k kp p tp c r Ns Ac pf)
  | true => exact spec_chk2T T hq _ _ _ _ hR _ _ _ _ _ (by exact Nat.le_of_ble_eq_true rfl) (by rfl) (fun _ => by rfl) (by decide) (K.rC1B3 W it L ns acc cl ys k kp p tp c r Ns Ac pf)
/-! the words laid into the line -/
theorem pu_loop (W : NX) (O : FO) (it l : Addr) (n : Nat) : ∀ (rest : List Value) (ws : List Nat) (pre ys : List Value) (k t4 : Nat) (v4 : Value), IsW ws rest → (pre ++ rest).length < 24 → ys.length + rest.length < 700 →
    Spec prog w top (rPuL top w.params W O it l (pre ++ rest) n pre.length [eP w.params "word" t4 v4] 5 ys k (ys ++ rest) (k + rest.length) ((v4 :: rest).getLast (by simp)))
  | [], _, pre, ys, k, t4, v4, _, hl, hy => by
    have hE : Spec prog w top (rPuE top w.params W O it l pre n pre.length t4 v4 ys k) :=
      spec_chk T _ rfl _ _ _ _ (fun _ _ => rcs_cons (fun _ => sLiE T K _ _ _ _ (by simpa using hl)) fun _ => rcs_nil) _ _ _ _ _ (by exact Nat.le_of_ble_eq_true rfl) (caller_for _ _ _) (fun _ => by rfl) (by decide) (K.rPuE _ W O it l pre n pre.length t4 v4 ys k)
    rw [List.append_nil, List.append_nil]
    exact hE
  | _ :: rest, _, pre, ys, k, t4, v4, .cons (k := a) (ws := ws) t h, hl, hy => by
    simp at hl hy
    refine spec_chk T _ rfl _ _ _ _ (fun _ _ => rcs_cons (fun _ => sLiN _ _ _ _ _ _ _ _ _ (by simp)) fun z => rcs_cons (fun _ => sNPush T K W _ _ _ _ (by omega)) fun _ => rcs_cons (fun _ => ?_) fun _ => rcs_nil)
      _ _ _ _ _ (by exact Nat.le_of_ble_eq_true rfl) (caller_for _ _ _) (fun _ => by rfl) (by decide) (K.rPuT _ W O it l (pre ++ .str (pw a) t :: rest) n pre.length (pw a) t t4 v4 ys k (ys ++ .str (pw a) t :: rest) (k + (Value.str (pw a) t :: rest).length) ((v4 :: .str (pw a) t :: rest).getLast (by simp)))
    have ih := pu_loop W O it l n rest ws (pre ++ [.str (pw a) t]) (ys ++ [.str (pw a) t]) (k + 1) t4 (.str (pw a) t) h (by simp; omega) (by simp; omega)
    rw [show pre ++ [Value.str (pw a) t] ++ rest = pre ++ .str (pw a) t :: rest by simp, show ys ++ [Value.str (pw a) t] ++ rest = ys ++ .str (pw a) t :: rest by simp, show k + 1 + rest.length = k + (Value.str (pw a) t :: rest).length by simp; omega,
      show (pre ++ [Value.str (pw a) t]).length = pre.length + 1 by simp] at ih
    rw [show (v4 :: Value.str (pw a) t :: rest).getLast (by simp) = (Value.str (pw a) t :: rest).getLast (by simp) from List.getLast_cons (by simp)]
    exact ih
theorem pu_first (W : NX) (O : FO) (it l : Addr) (n : Nat) (rest : List Value) (ws : List Nat) (h : IsW ws rest) (hn : rest ≠ []) (hl : rest.length < 24) :
    Spec prog w top (rPuL top w.params W O it l rest n 0 [] 4 [] 0 rest rest.length (rest.getLast hn)) := by
  cases h with
  | nil => exact absurd rfl hn
  | @cons a ws rest t h =>
    simp at hl
    refine spec_chk T _ rfl _ _ _ _ (fun _ _ => rcs_cons (fun _ => sLiN _ _ _ _ _ _ _ _ _ (by simp)) fun z => rcs_cons (fun _ => sNPush T K W _ _ _ _ (by simp)) fun _ => rcs_cons (fun _ => ?_) fun _ => rcs_nil)
      _ _ _ _ _ (by exact Nat.le_of_ble_eq_true rfl) (caller_for _ _ _) (fun _ => by rfl) (by decide) (K.rPuF _ W O it l (.str (pw a) t :: rest) n 0 (pw a) t [] 0 (.str (pw a) t :: rest) (Value.str (pw a) t :: rest).length ((Value.str (pw a) t :: rest).getLast hn))
    have ih := pu_loop T K W O it l n rest ws [.str (pw a) t] ([] ++ [.str (pw a) t]) (0 + 1) (z.n 1) (.str (pw a) t) h (by simp; omega) (by simp; omega)
    rw [show 0 + 1 + rest.length = (Value.str (pw a) t :: rest).length by simp; omega] at ih
    exact ih
end
end Mine
end
end
section
open PySem PySem.W PySem.W.X PyProof.Rows PySem.Calls
noncomputable section
namespace Mine
/-! _law_by_one's turns -/
noncomputable def Cf.k (c : Cf) : Nat := c.R.headD 0
noncomputable def Cf.x (tab : Nat → Nat) (c : Cf) : Nat := tab (3 * c.st + min c.k 2)
noncomputable def ver1 (c : Cf) (k : Nat) : Nat := match c.R with | [] => k + 2 + 2 * c.L.length | _ => k + 1
noncomputable def ver2 (c : Cf) (k : Nat) : Nat := match c.L with | [] => k + 1 | _ => k
noncomputable def verS (tab : Nat → Nat) (c : Cf) (k : Nat) : Nat := if c.x tab / 4 % 2 = 0 then ver1 c k + 1 else ver2 c (ver1 c k) + 1 + 2 * (c.R.tail.length + 1 + c.L.tail.length)
noncomputable def ver (tab : Nat → Nat) : Nat → Cf → Nat → Nat
  | 0, _, k => k
  | n + 1, c, k => ver tab n (stp tab c) (verS tab c k)
structure Cf.Fine (c : Cf) : Prop where
  st : c.st < 3
  L : ∀ k ∈ c.L, k < 4
  R : ∀ k ∈ c.R, k < 4
theorem stp_eq (tab : Nat → Nat) (c : Cf) : stp tab c = if c.x tab / 4 % 2 = 0 then ⟨c.seen ++ [c.k], c.x tab / 8, c.x tab % 4 :: c.L, c.R.tail⟩ else ⟨c.seen ++ [c.k], c.x tab / 8, c.L.tail, c.L.headD 0 :: c.x tab % 4 :: c.R.tail⟩ := rfl
theorem Cf.k_lt {c : Cf} (h : c.Fine) : c.k < 4 := by
  unfold Cf.k
  cases hp : c.R with
  | nil => simp
  | cons a l => simpa using h.R a (by rw [hp]; simp)
theorem stp_fine {tab : Nat → Nat} (ht : ∀ i, tab i < 24) {c : Cf} (h : c.Fine) : (stp tab c).Fine := by
  have hx : c.x tab < 24 := ht _
  have hL : c.L.headD 0 < 4 := by
    cases hl : c.L with
    | nil => simp
    | cons a l => simpa using h.L a (by rw [hl]; simp)
  rw [stp_eq]
  split
  · refine ⟨by show c.x tab / 8 < 3; omega, fun k hk => ?_, fun k hk => h.R k (List.mem_of_mem_tail hk)⟩
    rcases List.mem_cons.mp hk with rfl | hk
    · omega
    · exact h.L k hk
  · refine ⟨by show c.x tab / 8 < 3; omega, fun k hk => h.L k (List.mem_of_mem_tail hk), fun k hk => ?_⟩
    rcases List.mem_cons.mp hk with rfl | hk
    · exact hL
    · rcases List.mem_cons.mp hk with rfl | hk
      · omega
      · exact h.R k (List.mem_of_mem_tail hk)
theorem pw_bar : ∀ k, k < 4 → (pw k == bar) = false := by decide
noncomputable def oV (i : Nat) (m : Nat → Nat) : Value := match i with
  | 0 => .str (pw (m 0)) (m 1)
  | 1 => .int (Int.ofNat (m 2)) (m 3)
  | 2 => .str (pw (m 4)) (m 5)
  | _ => .bool (m 6 == 0)
noncomputable def finO (P₀ : Params) (O : FO) (sn : Addr) (c : Cf) (q kB : Nat) : Nat → MM → Obj := fun i m => match i with
  | 0 => lstO (wv c.seen (m 0)) q
  | 1 => O.fr P₀ (kL P₀ (m 1 0) (m 1 1) (m 1 2) (m 1 3) (m 1 4) (m 1 5) (oV 0 (m 3)) (.int (c.st : Int) (m 1 6)) (.ref sn) (oV 1 (m 3)) (oV 2 (m 3)) (oV 3 (m 3))) 10
  | _ => lstO (wv (c.R ++ 4 :: c.L.reverse) (m 2)) kB
/-- the line at a turn -/
structure OneOk (c : Cf) (xs ss : List Value) (cnt : Nat) : Prop where
  fine : c.Fine
  x : IsW (c.R ++ 4 :: c.L.reverse) xs
  s : IsW c.seen ss
  ns : c.seen.length = cnt
  n1 : 1 ≤ c.R.length + c.L.length
  n2 : c.R.length + c.L.length ≤ 40 + cnt
section
variable {prog : Program} {w : World} {top : KT} (T : Top top prog w) (K : Checks w.params prog top)
include T K
theorem on_loop (tab : Nat → Nat) (ht : ∀ i, tab i < 24) (W : NX) (O : FO) (it sn : Addr) (tt : List Value) (nt : Nat) (htt : ∀ i, i < 9 → ∃ tx, tt[i]? = some (.int (tab i : Int) tx)) :
    ∀ (r : Nat) (c : Cf) (cnt ts t4 t5 t6 t7 t8 t9 k : Nat) (mv : Nat → Nat) (ss xs : List Value), cnt + r ≤ 12 → OneOk c xs ss cnt →
      Spec prog w top (rOnL top w.params W O it sn tt nt (kL w.params t4 t5 t6 t7 t8 t9 (oV 0 mv) (.int (c.st : Int) ts) (.ref sn) (oV 1 mv) (oV 2 mv) (oV 3 mv)) 10 ss cnt xs k cnt r (finO w.params O sn (runN' tab r c) (cnt + r) (ver tab r c k)))
  | 0, c, cnt, ts, t4, t5, t6, t7, t8, t9, k, mv, ss, xs, hc, h => by
    have hE := spec_chk T _ rfl _ _ _ _ (fun _ _ => rcs_nil) _ _ _ _ _ (by exact Nat.le_of_ble_eq_true rfl) (caller_for _ _ _) (fun _ => by rfl) (by decide) (K.rOnE _ W O it sn tt nt (kL w.params t4 t5 t6 t7 t8 t9 (oV 0 mv) (.int (c.st : Int) ts) (.ref sn) (oV 1 mv) (oV 2 mv) (oV 3 mv)) 10 ss cnt xs k cnt)
    obtain ⟨Ts, rfl⟩ := h.s.of
    obtain ⟨Tx, rfl⟩ := h.x.of
    exact conv0 hE rfl (Nat.le_refl _) (.inl rfl) rfl fun x => ⟨⟨x.n, fun i => match i with | 0 => Ts | 1 => (fun j => match j with | 0 => t4 | 1 => t5 | 2 => t6 | 3 => t7 | 4 => t8 | 5 => t9 | _ => ts) | 2 => Tx | _ => mv, x.o, x.p, x.b⟩, rfl, rfl, rfl, rfl, rfl⟩
  | r + 1, c, cnt, ts, t4, t5, t6, t7, t8, t9, k, mv, ss, xs, hc, h => by
    have hk := Cf.k_lt h.fine
    have hst := h.fine.st
    obtain ⟨tx, htx⟩ := htt (3 * c.st + min c.k 2) (by omega)
    have hx : c.x tab < 24 := ht _
    have hrule : ∀ tw, Spec prog w top (rRule O.tab tt nt (c.st : Int) ts tw (c.x tab : Int) tx (pw (c.x tab % 4)) (decide (c.x tab / 4 % 2 = 0)) (pw c.k)) := fun tw => sRule T K c.k hk _ _ _ _ _ _ _ _ hx hst htx
    have hss : ss.length = cnt := by rw [h.s.length, h.ns]
    have hsn := h.ns
    have n1 := h.n1
    have n2 := h.n2
    have hRt : c.R.tail.length = c.R.length - 1 := List.length_tail
    have hLt : c.L.tail.length = c.L.length - 1 := List.length_tail
    have rest : ∀ (z0 zr : Ov) (on : Bool) (tw : Nat) (ys : List Value) (k' : Nat), IsW ((stp tab c).R ++ 4 :: (stp tab c).L.reverse) ys → k' = verS tab c k →
        Spec prog w top (rOnL top w.params W O it sn tt nt (kL w.params t4 t5 t6 t7 t8 t9 (.str (pw c.k) tw) (.int ((c.x tab : Int) / 8) (zr.n 4)) (.ref sn) (.int (Int.ofNat cnt) (z0.n 2)) (.str (pw (c.x tab % 4)) (zr.n 3)) (.bool on)) 10 (ss ++ [Value.str (pw c.k) tw]) (cnt + 1) ys k' (cnt + 1) r
          (finO w.params O sn (runN' tab (r + 1) c) (cnt + (r + 1)) (ver tab (r + 1) c k))) := by
      intro z0 zr on tw ys k' hy hk'
      subst hk'
      have est : ((c.x tab : Int) / 8) = ((stp tab c).st : Int) := by rw [stp_eq]; split <;> rfl
      have esn : (stp tab c).seen = c.seen ++ [c.k] := by rw [stp_eq]; split <;> rfl
      have ih := on_loop tab ht W O it sn tt nt htt r (stp tab c) (cnt + 1) (zr.n 4) t4 t5 t6 t7 t8 t9 (verS tab c k) (fun j => match j with | 0 => c.k | 1 => tw | 2 => cnt | 3 => z0.n 2 | 4 => c.x tab % 4 | 5 => zr.n 3 | _ => bN on) (ss ++ [Value.str (pw c.k) tw]) ys (by omega)
        ⟨stp_fine ht h.fine, hy, by rw [esn]; exact h.s.append (.one _ _), by rw [esn]; simp [hsn], by rw [stp_eq]; split <;> simp <;> omega, by rw [stp_eq]; split <;> simp <;> omega⟩
      have eb : (Value.bool on) = oV 3 (fun j => match j with | 0 => c.k | 1 => tw | 2 => cnt | 3 => z0.n 2 | 4 => c.x tab % 4 | 5 => zr.n 3 | _ => bN on) := by cases on <;> rfl
      rw [est, eb, show cnt + (r + 1) = cnt + 1 + r by omega]
      exact ih
    have happ : ∀ v, Spec prog w top (rApp sn ss cnt v) := fun v => sApp prog w top sn ss cnt v (by omega)
    have rgn := sRgN prog w top it cnt r
    let mk : Str → Nat → List Value → (Nat → List Value) → Nat → Nat → (Nat → Nat → Nat → List Value) → Nat → Nat → Str → Nat → OT := fun s t xs A kA mu B kB mu2 ls lt =>
      ⟨W, O, it, sn, tt, nt, t4, oV 0 mv, t5, t6, t7, oV 1 mv, t8, oV 2 mv, t9, oV 3 mv, ss, cnt, s, t, xs, k, cnt, r, (c.st : Int), ts, (c.x tab : Int), tx, pw (c.x tab % 4), ls, lt, A, kA, mu, B, kB, mu2, finO w.params O sn (runN' tab (r + 1) c) (cnt + (r + 1)) (ver tab (r + 1) c k)⟩
    have w4 : pw 0 = sw0 := rfl
    -- behind the word's taking: the line Al
    have midOn : decide (c.x tab / 4 % 2 = 0) = true → ∀ (X : OT) (hX : ∃ s t xs A kA mu B kB mu2 ls lt, X = mk s t xs A kA mu B kB mu2 ls lt) (tb : Nat) (z0 : Ov) (tw : Nat) (Al : List Value), IsW (c.R.tail ++ 4 :: c.L.reverse) Al → RcsOk prog w top (X.mid top w.params true false (pw c.k) tw false z0 tb Al (ver1 c k)) := by
      rintro hon X ⟨s, t, xs, A, kA, mu, B, kB, mu2, ls, lt, rfl⟩ tb z0 tw Al hA
      have hlen := hA.length
      simp at hlen
      rw [hon] at hrule
      refine rcs_cons (fun _ => happ _) fun _ => rcs_cons (fun _ => hrule _) fun zr => rcs_cons (fun _ => sNPush T K W _ _ _ _ (by omega)) fun _ => rcs_cons (fun _ => ?_) fun _ => rcs_nil
      refine rest z0 zr true tw (Al ++ [Value.str (pw (c.x tab % 4)) (zr.n 3)]) (ver1 c k + 1) ?_ ?_
      · rw [stp_eq, if_pos (of_decide_eq_true hon)]
        have := hA.append (.one (c.x tab % 4) (zr.n 3))
        simpa using this
      · unfold verS; rw [if_pos (of_decide_eq_true hon)]
    have late : decide (c.x tab / 4 % 2 = 0) = false → ∀ (X : OT) (tb tq : Nat) (z0 zr : Ov) (tw : Nat) (Al : List Value) (k' : Nat), (∃ s t xs A kA mu B ls lt, X = mk s t xs A kA mu B (k' + 1 + 2 * (c.R.tail.length + 1 + c.L.tail.length)) (c.R.tail.length + 1 + c.L.tail.length) ls lt ∧ (∀ tw, B tb tq tw = rotV (c.R.tail.length + 1 + c.L.tail.length) (Al ++ [Value.str (pw (c.x tab % 4)) tw]))) →
        IsW ((c.R.tail ++ 4 :: c.L.tail.reverse) ++ [c.L.headD 0]) Al → k' = ver2 c (ver1 c k) → RcsOk prog w top (X.late top w.params (pw c.k) tw t7 t8 t9 z0 zr tb tq Al k') := by
      rintro hon X tb tq z0 zr tw Al k' ⟨s, t, xs, A, kA, mu, B, ls, lt, rfl, hB⟩ hA hk'
      have hlen := hA.length
      simp at hlen
      have hA2 := hA.append (.one (c.x tab % 4) (zr.n 3))
      refine rcs_cons (fun _ => sNPush T K W _ _ _ _ (by omega)) fun _ => rcs_cons (fun _ => sLenL _ _ _ _ _ _ (by simp; omega)) fun _ => rcs_cons (fun _ => sSubI _ _ _ _ _ _ _ _ (by show (Int.ofNat (Al ++ [Value.str (pw (c.x tab % 4)) (zr.n 3)]).length : Int) - 2 = Int.ofNat (c.R.tail.length + 1 + c.L.tail.length); simp only [Int.ofNat_eq_natCast, List.length_append, List.length_cons, List.length_nil]; omega)) fun _ => rcs_cons (fun _ => ?_) fun _ => rcs_cons (fun _ => ?_) fun _ => rcs_nil
      · have := sRound T K W (c.R.tail.length + 1 + c.L.tail.length) (tk1 ‹_›) _ _ (k' + 1) hA2 (by simp) (by simp; omega) (by omega)
        show Spec prog w top (rRound top w.params W _ (k' + 1) (c.R.tail.length + 1 + c.L.tail.length) _ (B tb tq (zr.n 3)) _)
        rw [hB]
        exact this
      · have hrot := hA2.rot (c.R.tail.length + 1 + c.L.tail.length)
        rw [List.append_assoc, show c.R.tail.length + 1 + c.L.tail.length = (c.R.tail ++ 4 :: c.L.tail.reverse).length by simp; omega, rotV_app] at hrot
        show Spec prog w top (rOnL top w.params W O it sn tt nt _ 10 _ _ (B tb tq (zr.n 3)) _ _ r _)
        rw [hB]
        refine rest z0 zr false tw _ _ ?_ ?_
        · rw [stp_eq, if_neg (of_decide_eq_false hon)]
          rw [show c.R.tail.length + 1 + c.L.tail.length = (c.R.tail ++ 4 :: c.L.tail.reverse).length by simp; omega]
          simpa using hrot
        · unfold verS; rw [if_neg (of_decide_eq_false hon), hk']
    have midOff : decide (c.x tab / 4 % 2 = 0) = false → ∀ (s : Str) (t : Nat) (xs : List Value) (A : Nat → List Value) (kA mu : Nat) (Af : Nat → List Value) (tb : Nat) (z0 : Ov) (tw lt : Nat), IsW (c.R.tail ++ 4 :: c.L.reverse) (Af tb) → (c.L ≠ [] → ∀ tb, (Af tb).getLast? = some (.str (pw (c.L.headD 0)) lt)) → (c.L = [] → ∀ tb, (Af tb).getLast? = some (.str bar lt)) →
        RcsOk prog w top ((mk s t xs A kA mu (fun tb tq tw => rotV (c.R.tail.length + 1 + c.L.tail.length) (Af tb ++ (match c.L with | [] => [Value.str sw0 tq] | _ => []) ++ [Value.str (pw (c.x tab % 4)) tw])) (ver2 c (ver1 c k) + 1 + 2 * (c.R.tail.length + 1 + c.L.tail.length)) (c.R.tail.length + 1 + c.L.tail.length) (match c.L with | [] => bar | _ => pw (c.L.headD 0)) lt).mid top w.params false (match c.L with | [] => true | _ => false) (pw c.k) tw false z0 tb (Af tb) (ver1 c k)) := by
      intro hon s t xs A kA mu Af tb z0 tw lt hA hl1 hl2
      have hlen := hA.length
      simp at hlen
      cases hL : c.L with
      | nil =>
        rw [hL] at hA
        rw [hon] at hrule
        refine rcs_cons (fun _ => happ _) fun _ => rcs_cons (fun _ => hrule _) fun zr => rcs_cons (fun _ => sLast _ _ _ _ _ _ _ _ (hl2 hL tb)) fun zl => rcs_cons (fun _ => sSeq _ _ _ _ _ _ _ _ (show (bar == bar) = true from by decide)) fun zs => rcs_cons (fun _ => sNPush T K W _ _ _ _ (by omega)) fun zq => ?_
        have := late hon (mk s t xs A kA mu (fun tb tq tw => rotV (c.R.tail.length + 1 + c.L.tail.length) (Af tb ++ [Value.str sw0 tq] ++ [Value.str (pw (c.x tab % 4)) tw])) (ver1 c k + 1 + 1 + 2 * (c.R.tail.length + 1 + c.L.tail.length)) (c.R.tail.length + 1 + c.L.tail.length) bar lt) tb (zs.n 1) z0 zr tw (Af tb ++ [Value.str sw0 (zs.n 1)]) (ver1 c k + 1)
          ⟨s, t, xs, A, kA, mu, _, bar, lt, rfl, fun tw => rfl⟩ (by rw [hL]; exact hA.append (.one 0 _)) (by unfold ver2; rw [hL])
        rw [hL] at this
        simp only [ver2, hL]
        exact this
      | cons l L' =>
        rw [hL] at hA
        have hl4 : l < 4 := h.fine.L l (by rw [hL]; simp)
        have hl1' := hl1 (by rw [hL]; simp) tb
        rw [hL] at hl1'
        rw [hon] at hrule
        refine rcs_cons (fun _ => happ _) fun _ => rcs_cons (fun _ => hrule _) fun zr => rcs_cons (fun _ => sLast _ _ _ _ _ _ _ _ hl1') fun zl => rcs_cons (fun _ => sSeq _ _ _ _ _ _ _ _ (pw_bar l hl4)) fun zs => ?_
        have := late hon (mk s t xs A kA mu (fun tb tq tw => rotV (c.R.tail.length + 1 + c.L.tail.length) (Af tb ++ [] ++ [Value.str (pw (c.x tab % 4)) tw])) (ver1 c k + 1 + 2 * (c.R.tail.length + 1 + c.L.tail.length)) (c.R.tail.length + 1 + c.L.tail.length) (pw l) lt) tb 0 z0 zr tw (Af tb) (ver1 c k)
          ⟨s, t, xs, A, kA, mu, _, pw l, lt, rfl, fun tw => by rw [List.append_nil]⟩ (by rw [hL]; simpa using hA) (by unfold ver2; rw [hL])
        rw [hL] at this
        simp only [ver2, hL]
        exact this
    have lv9 : (690 : Nat) ≤ 900 := by decide
    have hx0 := h.x
    cases hR : c.R with
    | cons a R' =>
      have ek : c.k = a := by unfold Cf.k; rw [hR]; rfl
      have ev1 : ver1 c k = k + 1 := by unfold ver1; rw [hR]
      rw [hR] at hx0
      generalize hxs : xs = xs0 at hx0
      cases hx0 with
      | @cons _ _ xs' t h2 =>
        have hlen := h2.length
        simp at hlen
        have hRl : c.R.length = R'.length + 1 := by rw [hR]; rfl
        have hpop := sNPop T K W xs' (pw a) t k (by omega)
        have hseq : ∀ ta tb, Spec prog w top (rSeq (pw a) bar ta tb false) := fun ta tb => sSeq _ _ _ _ _ _ _ _ (pw_bar a (by rw [← ek]; exact hk))
        have h2' : IsW (c.R.tail ++ 4 :: c.L.reverse) xs' := by rw [hR]; exact h2
        rw [ev1, ek] at midOn midOff
        cases hon : decide (c.x tab / 4 % 2 = 0) with
        | true =>
          exact spec_chk T _ rfl _ _ _ _ (fun _ _ => rcs_cons (fun _ => rgn) fun z0 => rcs_cons (fun _ => hpop) fun z1 => rcs_cons (fun _ => hseq _ _) fun z2 => midOn hon (mk (pw a) t xs' (fun _ => []) 0 0 (fun _ _ _ => []) 0 0 bar 0) ⟨_, _, _, _, _, _, _, _, _, _, _, rfl⟩ 0 z0 t xs' h2')
            _ _ _ _ _ lv9 (caller_for _ _ _) (fun _ => by rfl) (by decide) (K.rOnT0 _ (mk (pw a) t xs' (fun _ => []) 0 0 (fun _ _ _ => []) 0 0 bar 0))
        | false =>
          have hlast : ∃ lt v, xs'.getLast? = some (.str v lt) ∧ (c.L ≠ [] → v = pw (c.L.headD 0)) ∧ (c.L = [] → v = bar) := by
            cases hL : c.L with
            | nil =>
              rw [hR, hL] at h2'
              have h3 : IsW (R' ++ [4]) xs' := by simpa using h2'
              obtain ⟨ys, zs, rfl, _, g⟩ := h3.split
              cases g with
              | cons t g => cases g; exact ⟨t, pw 4, by simp, fun e => absurd rfl e, fun _ => rfl⟩
            | cons l L' =>
              rw [hR, hL] at h2'
              have h3 : IsW ((R' ++ 4 :: L'.reverse) ++ [l]) xs' := by simpa using h2'
              obtain ⟨ys, zs, rfl, _, g⟩ := h3.split
              cases g with
              | cons t g => cases g; exact ⟨t, pw l, by simp, fun _ => rfl, fun e => by cases e⟩
          obtain ⟨lt, v, hv, hv1, hv2⟩ := hlast
          have hm := fun z0 => midOff hon (pw a) t xs' (fun _ => []) 0 0 (fun _ => xs') 0 z0 t lt h2' (fun e _ => by rw [← hv1 e]; exact hv) (fun e _ => by rw [← hv2 e]; exact hv)
          cases hL : c.L with
          | nil =>
            rw [hL] at hm
            exact spec_chk T _ rfl _ _ _ _ (fun _ _ => rcs_cons (fun _ => rgn) fun z0 => rcs_cons (fun _ => hpop) fun z1 => rcs_cons (fun _ => hseq _ _) fun z2 => hm z0) _ _ _ _ _ lv9 (caller_for _ _ _) (fun _ => by rfl) (by decide) (K.rOnT1 _ (mk (pw a) t xs' _ _ _ _ _ _ _ _))
          | cons l L' =>
            rw [hL] at hm
            exact spec_chk T _ rfl _ _ _ _ (fun _ _ => rcs_cons (fun _ => rgn) fun z0 => rcs_cons (fun _ => hpop) fun z1 => rcs_cons (fun _ => hseq _ _) fun z2 => hm z0) _ _ _ _ _ lv9 (caller_for _ _ _) (fun _ => by rfl) (by decide) (K.rOnT2 _ (mk (pw a) t xs' _ _ _ _ _ _ _ _))
    | nil =>
      have ek : c.k = 0 := by unfold Cf.k; rw [hR]; rfl
      have ev1 : ver1 c k = k + 2 + 2 * c.L.length := by unfold ver1; rw [hR]
      have hLn : c.L ≠ [] := fun e => by rw [hR, e] at n1; simp at n1
      rw [hR] at hx0
      generalize hxs : xs = xs0 at hx0
      cases hx0 with
      | @cons _ _ xs' t h2 =>
        have hlen := h2.length
        simp at hlen
        have hRl : c.R.length = 0 := by rw [hR]; rfl
        have hpop := sNPop T K W xs' bar t k (by omega)
        have hpush : ∀ tb, Spec prog w top (rNPush W xs' bar tb (k + 1)) := fun tb => sNPush T K W _ _ _ _ (by omega)
        have hseq : ∀ ta tb, Spec prog w top (rSeq bar bar ta tb true) := fun ta tb => sSeq _ _ _ _ _ _ _ _ (by decide)
        have hlenL : ∀ tb n, Spec prog w top (rLenL W.pb (xs' ++ [Value.str bar tb]) n) := fun tb n => sLenL _ _ _ _ _ _ (by simp; omega)
        have hsub : ∀ tb ta tc, Spec prog w top (rBin "int.__sub__" (Int.ofNat (xs' ++ [Value.str bar tb]).length) 1 ta tc (Int.ofNat c.L.length)) := fun tb ta tc => sSubI _ _ _ _ _ _ _ _ (by simp only [Int.ofNat_eq_natCast, List.length_append, List.length_cons, List.length_nil]; omega)
        let A : Nat → List Value := fun tb => rotV c.L.length (xs' ++ [Value.str bar tb])
        have eA : ∀ tb, A tb = Value.str bar tb :: xs' := fun tb => by
          show rotV c.L.length (xs' ++ [Value.str bar tb]) = _
          rw [← hlen, rotV_app]; rfl
        have h2A : ∀ tb, IsW (c.L.reverse ++ [4]) (xs' ++ [Value.str bar tb]) := fun tb => h2.append (.one 4 tb)
        have hround : ∀ tb ta, Spec prog w top (rRound top w.params W (xs' ++ [Value.str bar tb]) (k + 2) c.L.length ta (A tb) (k + 2 + 2 * c.L.length)) := fun tb ta => sRound T K W _ _ _ _ _ (h2A tb) (by simp) (by simp; omega) (by omega)
        have hA : ∀ tb, IsW (c.R.tail ++ 4 :: c.L.reverse) (A tb) := fun tb => by rw [hR, eA]; exact .cons tb h2
        rw [ev1, ek] at midOn midOff
        cases hon : decide (c.x tab / 4 % 2 = 0) with
        | true =>
          exact spec_chk T _ rfl _ _ _ _ (fun _ _ => rcs_cons (fun _ => rgn) fun z0 => rcs_cons (fun _ => hpop) fun z1 => rcs_cons (fun _ => hseq _ _) fun z2 => rcs_cons (fun _ => hpush _) fun z3 => rcs_cons (fun _ => hlenL _ _) fun z4 => rcs_cons (fun _ => hsub _ _ _) fun z5 => rcs_cons (fun _ => hround _ _) fun z6 =>
              midOn hon (mk bar t xs' A (k + 2 + 2 * c.L.length) c.L.length (fun _ _ _ => []) 0 0 bar 0) ⟨_, _, _, _, _, _, _, _, _, _, _, rfl⟩ (z2.n 1) z0 (z6.n 1) (A (z2.n 1)) (hA _))
            _ _ _ _ _ lv9 (caller_for _ _ _) (fun _ => by rfl) (by decide) (K.rOnT3 _ (mk bar t xs' A (k + 2 + 2 * c.L.length) c.L.length (fun _ _ _ => []) 0 0 bar 0))
        | false =>
          cases hL : c.L with
          | nil => exact absurd hL hLn
          | cons l L' =>
            have hlast : ∃ lt, xs'.getLast? = some (.str (pw l) lt) := by
              rw [hL] at h2
              have h3 : IsW (L'.reverse ++ [l]) xs' := by simpa using h2
              obtain ⟨ys, zs, rfl, _, g⟩ := h3.split
              cases g with
              | cons t g => cases g; exact ⟨t, by simp⟩
            obtain ⟨lt, hv⟩ := hlast
            have hm := fun z0 tb tw => midOff hon bar t xs' A (k + 2 + 2 * c.L.length) c.L.length A tb z0 tw lt (hA tb) (fun _ tb => by
              rw [eA, List.getLast?_cons, hv, hL]; rfl) (fun e => absurd e hLn)
            rw [hL] at hm
            exact spec_chk T _ rfl _ _ _ _ (fun _ _ => rcs_cons (fun _ => rgn) fun z0 => rcs_cons (fun _ => hpop) fun z1 => rcs_cons (fun _ => hseq _ _) fun z2 => rcs_cons (fun _ => hpush _) fun z3 => rcs_cons (fun _ => hlenL _ _) fun z4 => rcs_cons (fun _ => by have := hsub; rw [hL] at this; exact this _ _ _) fun z5 => rcs_cons (fun _ => by have := hround; rw [hL] at this; exact this _ _) fun z6 => hm z0 (z2.n 1) (z6.n 1))
              _ _ _ _ _ lv9 (caller_for _ _ _) (fun _ => by rfl) (by decide) (K.rOnT5 _ (mk bar t xs' A _ _ _ _ _ _ _))
end
end Mine
end
end
section
open PySem PySem.W PySem.W.X PyProof.Rows PySem.Calls
noncomputable section
namespace Mine
section
variable {prog : Program} {w : World} {top : KT} (T : Top top prog w) (K : Checks w.params prog top)
include T K
theorem on_first (tab : Nat → Nat) (ht : ∀ i, tab i < 24) (W : NX) (O : FO) (it sn : Addr) (tt : List Value) (nt : Nat) (htt : ∀ i, i < 9 → ∃ tx, tt[i]? = some (.int (tab i : Int) tx))
    (r st a ts t4 t5 t6 k : Nat) (R' : List Nat) (v4 : Value) (xs : List Value) (hr : r < 12) (h : OneOk ⟨[], st, [], a :: R'⟩ xs [] 0) :
      Spec prog w top (rOnL top w.params W O it sn tt nt (kF w.params t4 t5 t6 v4 (.int (st : Int) ts) (.ref sn)) 7 [] 0 xs k 0 (r + 1) (finO w.params O sn (runN' tab (r + 1) ⟨[], st, [], a :: R'⟩) (r + 1) (ver tab (r + 1) ⟨[], st, [], a :: R'⟩ k))) := by
  generalize hc : (⟨[], st, [], a :: R'⟩ : Cf) = c at h
  have ha : a < 4 := h.fine.R a (by rw [← hc]; simp)
  have hst : st < 3 := by have := h.fine.st; rw [← hc] at this; exact this
  obtain ⟨tx, htx⟩ := htt (3 * st + min a 2) (by omega)
  have ex : c.x tab = tab (3 * st + min a 2) := by rw [← hc]; rfl
  have ek : c.k = a := by rw [← hc]; rfl
  have hx : c.x tab < 24 := ht _
  have hR : c.R = a :: R' := by rw [← hc]
  have hL : c.L = [] := by rw [← hc]
  have hS : c.seen = [] := by rw [← hc]
  have n2 := h.n2
  rw [hR, hL] at n2
  simp at n2
  have hrule : ∀ tw, Spec prog w top (rRule O.tab tt nt (st : Int) ts tw (c.x tab : Int) tx (pw (c.x tab % 4)) (decide (c.x tab / 4 % 2 = 0)) (pw a)) := fun tw => sRule T K a ha _ _ _ _ _ _ _ _ hx hst (by rw [ex]; exact htx)
  have rest : ∀ (t7 t8 t9 : Nat) (z0 zr : Ov) (on : Bool) (tw : Nat) (ys : List Value) (k' : Nat), IsW ((stp tab c).R ++ 4 :: (stp tab c).L.reverse) ys → k' = verS tab c k →
      Spec prog w top (rOnL top w.params W O it sn tt nt (kL w.params t4 t5 t6 t7 t8 t9 (.str (pw a) tw) (.int ((c.x tab : Int) / 8) (zr.n 4)) (.ref sn) (.int (Int.ofNat 0) (z0.n 2)) (.str (pw (c.x tab % 4)) (zr.n 3)) (.bool on)) 10 ([] ++ [Value.str (pw a) tw]) (0 + 1) ys k' (0 + 1) r
        (finO w.params O sn (runN' tab (r + 1) c) (r + 1) (ver tab (r + 1) c k))) := by
    intro t7 t8 t9 z0 zr on tw ys k' hy hk'
    subst hk'
    have est : ((c.x tab : Int) / 8) = ((stp tab c).st : Int) := by rw [stp_eq]; split <;> rfl
    have esn : (stp tab c).seen = [] ++ [a] := by rw [stp_eq]; split <;> rw [hS, ek]
    have ih := on_loop T K tab ht W O it sn tt nt htt r (stp tab c) (0 + 1) (zr.n 4) t4 t5 t6 t7 t8 t9 (verS tab c k) (fun j => match j with | 0 => a | 1 => tw | 2 => 0 | 3 => z0.n 2 | 4 => c.x tab % 4 | 5 => zr.n 3 | _ => bN on) ([] ++ [Value.str (pw a) tw]) ys (by omega)
      ⟨stp_fine ht h.fine, hy, by rw [esn]; exact IsW.append .nil (.one _ _), by rw [esn]; rfl, by rw [stp_eq]; split <;> simp <;> omega, by rw [stp_eq, hR, hL]; split <;> simp <;> omega⟩
    have eb : (Value.bool on) = oV 3 (fun j => match j with | 0 => a | 1 => tw | 2 => 0 | 3 => z0.n 2 | 4 => c.x tab % 4 | 5 => zr.n 3 | _ => bN on) := by cases on <;> rfl
    rw [show 0 + 1 + r = r + 1 by omega] at ih
    rw [est, eb]
    exact ih
  have happ : ∀ v, Spec prog w top (rApp sn [] 0 v) := fun v => sApp prog w top sn [] 0 v (by simp)
  have rgn := sRgN prog w top it 0 r
  have lv9 : (690 : Nat) ≤ 900 := by decide
  have hx0 := h.x
  rw [hR, hL] at hx0
  generalize hxs : xs = xs0 at hx0
  cases hx0 with
  | @cons _ _ xs' t h2 =>
    have h2' : IsW (R' ++ [4]) xs' := by simpa using h2
    have hlen := h2'.length
    simp at hlen
    have hpop := sNPop T K W xs' (pw a) t k (by omega)
    have hseq : ∀ ta tb, Spec prog w top (rSeq (pw a) bar ta tb false) := fun ta tb => sSeq _ _ _ _ _ _ _ _ (pw_bar a ha)
    have hp1 : ∀ s t k, Spec prog w top (rNPush W xs' s t k) := fun s t k => sNPush T K W _ _ _ _ (by omega)
    have hp2 : ∀ tq s t k, Spec prog w top (rNPush W (xs' ++ [Value.str sw0 tq]) s t k) := fun tq s t k => sNPush T K W _ _ _ _ (by simp; omega)
    have hln : ∀ tq s t n, Spec prog w top (rLenL W.pb (xs' ++ [Value.str sw0 tq] ++ [Value.str s t]) n) := fun tq s t n => sLenL _ _ _ _ _ _ (by simp; omega)
    by_cases hon : c.x tab / 4 % 2 = 0
    · rw [decide_eq_true hon] at hrule
      let X : OT := ⟨W, O, it, sn, tt, nt, t4, v4, t5, t6, 0, .none, 0, .none, 0, .none, [], 0, pw a, t, xs', k, 0, r, (st : Int), ts, (c.x tab : Int), tx, pw (c.x tab % 4), bar, 0, fun _ => [], 0, 0, fun _ _ _ => [], 0, 0, finO w.params O sn (runN' tab (r + 1) c) (r + 1) (ver tab (r + 1) c k)⟩
      exact spec_chk T _ rfl _ _ _ _ (fun _ _ => rcs_cons (fun _ => rgn) fun z0 => rcs_cons (fun _ => hpop) fun z1 => rcs_cons (fun _ => hseq _ _) fun z2 => rcs_cons (fun _ => happ _) fun _ => rcs_cons (fun _ => hrule _) fun zr => rcs_cons (fun _ => hp1 _ _ _) fun _ => rcs_cons (fun _ =>
          rest _ _ _ z0 zr true t (xs' ++ [Value.str (pw (c.x tab % 4)) (zr.n 3)]) (k + 1 + 1) (by
            rw [stp_eq, if_pos hon, hR, hL]
            have := h2'.append (.one (c.x tab % 4) (zr.n 3))
            simpa using this) (by unfold verS ver1; rw [if_pos hon, hR])) fun _ => rcs_nil)
        _ _ _ _ _ lv9 (caller_for _ _ _) (fun _ => by rfl) (by decide) (K.rOnF0 _ X)
    · rw [decide_eq_false hon] at hrule
      have hlast : ∃ lt, xs'.getLast? = some (.str bar lt) := by
        obtain ⟨ys, zs, rfl, _, g⟩ := h2'.split
        cases g with
        | cons t g => cases g; exact ⟨t, by simp; rfl⟩
      obtain ⟨lt, hv⟩ := hlast
      have hA2 : ∀ tq tw, IsW ((R' ++ [4]) ++ [0, c.x tab % 4]) (xs' ++ [Value.str sw0 tq] ++ [Value.str (pw (c.x tab % 4)) tw]) := fun tq tw => by
        have := (h2'.append (.one 0 tq)).append (.one (c.x tab % 4) tw)
        rw [List.append_assoc] at this
        exact this
      let B : Nat → Nat → Nat → List Value := fun _ tq tw => rotV (R' ++ [4]).length (xs' ++ [Value.str sw0 tq] ++ [Value.str (pw (c.x tab % 4)) tw])
      have hround : ∀ tq tw ta n, Spec prog w top (rRound top w.params W (xs' ++ [Value.str sw0 tq] ++ [Value.str (pw (c.x tab % 4)) tw]) n (R' ++ [4]).length ta (B 0 tq tw) (n + 2 * (R' ++ [4]).length)) := fun tq tw ta n =>
        sRound T K W _ _ _ _ _ (hA2 tq tw) (by simp) (by simp only [List.length_append, List.length_cons, List.length_nil]; omega) (by simp only [List.length_append, List.length_cons, List.length_nil]; omega)
      let X : OT := ⟨W, O, it, sn, tt, nt, t4, v4, t5, t6, 0, .none, 0, .none, 0, .none, [], 0, pw a, t, xs', k, 0, r, (st : Int), ts, (c.x tab : Int), tx, pw (c.x tab % 4), bar, lt, fun _ => [], 0, 0, B, k + 1 + 1 + 1 + 2 * (R' ++ [4]).length, (R' ++ [4]).length, finO w.params O sn (runN' tab (r + 1) c) (r + 1) (ver tab (r + 1) c k)⟩
      refine spec_chk T _ rfl _ _ _ _ (fun _ _ => rcs_cons (fun _ => rgn) fun z0 => rcs_cons (fun _ => hpop) fun z1 => rcs_cons (fun _ => hseq _ _) fun z2 => rcs_cons (fun _ => happ _) fun _ => rcs_cons (fun _ => hrule _) fun zr => rcs_cons (fun _ => sLast _ _ _ _ _ _ _ _ hv) fun zl => rcs_cons (fun _ => sSeq _ _ _ _ _ _ _ _ (show (bar == bar) = true from by decide)) fun zs =>
          rcs_cons (fun _ => hp1 _ _ _) fun zq => rcs_cons (fun _ => hp2 _ _ _ _) fun _ => rcs_cons (fun _ => hln _ _ _ _) fun _ => rcs_cons (fun _ => sSubI _ _ _ _ _ _ _ _ (by
            show (Int.ofNat (xs' ++ [Value.str sw0 (zs.n 1)] ++ [Value.str (pw (c.x tab % 4)) (zr.n 3)]).length : Int) - 2 = Int.ofNat (R' ++ [4]).length
            simp only [Int.ofNat_eq_natCast, List.length_append, List.length_cons, List.length_nil]; omega)) fun _ => rcs_cons (fun _ => ?_) fun _ => rcs_cons (fun _ => ?_) fun _ => rcs_nil)
        _ _ _ _ _ lv9 (caller_for _ _ _) (fun _ => by rfl) (by decide) (K.rOnF1 _ X)
      · exact hround _ _ _ _
      · refine rest _ _ _ z0 zr false t (B 0 (zs.n 1) (zr.n 3)) _ ?_ ?_
        · rw [stp_eq, if_neg hon, hR, hL]
          have := (hA2 (zs.n 1) (zr.n 3)).rot (R' ++ [4]).length
          rw [rotV_app] at this
          show IsW _ (rotV (R' ++ [4]).length (xs' ++ [Value.str sw0 (zs.n 1)] ++ [Value.str (pw (c.x tab % 4)) (zr.n 3)]))
          simpa using this
        · unfold verS ver1 ver2
          rw [if_neg hon, hR, hL]
          show k + 1 + 1 + 1 + 2 * (R' ++ [4]).length = k + 1 + 1 + 1 + 2 * (R'.length + 1 + 0)
          simp
end
end Mine
end
end
section
open PySem PySem.W PySem.W.X PyProof.Rows PySem.Calls
noncomputable section
namespace Mine
theorem wt_at : ∀ (ws : List Nat) (T : Nat → Nat) (i : Nat), ((wt ws T)[i]?).map (·.1) = (ws[i]?).map pw
  | [], _, i => by simp [wt]
  | k :: ws, T, 0 => rfl
  | k :: ws, T, i + 1 => by
    show ((wt ws fun i => T (i + 1))[i]?).map (·.1) = _
    rw [wt_at ws]; simp
theorem wt_len : ∀ (ws : List Nat) (T : Nat → Nat), (wt ws T).length = ws.length
  | [], _ => rfl
  | k :: ws, T => by simp [wt, wt_len ws]
theorem runN_bounds (tab : Nat → Nat) (ht : ∀ i, tab i < 24) : ∀ (n : Nat) (c : Cf) (q : Nat), c.Fine → 1 ≤ q → c.R.length + c.L.length ≤ q → (runN' tab n c).Fine ∧ (runN' tab n c).R.length + (runN' tab n c).L.length ≤ q + n
  | 0, c, q, h, h1, hl => ⟨h, hl⟩
  | n + 1, c, q, h, h1, hl => by
    have := runN_bounds tab ht n (stp tab c) (q + 1) (stp_fine ht h) (by omega) (by
      have hRt : c.R.tail.length = c.R.length - 1 := List.length_tail
      have hLt : c.L.tail.length = c.L.length - 1 := List.length_tail
      rw [stp_eq]
      split
      · show c.R.tail.length + (c.L.length + 1) ≤ _; omega
      · show (c.R.tail.length + 1 + 1) + c.L.tail.length ≤ _; omega)
    exact ⟨this.1, by have := this.2; show (runN' tab n (stp tab c)).R.length + (runN' tab n (stp tab c)).L.length ≤ _; omega⟩
theorem IsW.drop {ws : List Nat} {xs : List Value} (h : IsW ws xs) (n : Nat) : IsW (ws.drop n) (xs.drop n) := by
  induction h generalizing n with
  | nil => simp; exact .nil
  | cons t h ih => cases n with
    | zero => exact .cons t h
    | succ n => exact ih n
theorem IsW.take {ws : List Nat} {xs : List Value} (h : IsW ws xs) (n : Nat) : IsW (ws.take n) (xs.take n) := by
  induction h generalizing n with
  | nil => simp; exact .nil
  | cons t h ih => cases n with
    | zero => exact .nil
    | succ n => exact .cons t (ih n)
section
variable {prog : Program} {w : World} {top : KT} (T : Top top prog w) (K : Checks w.params prog top)
include T K
omit T K in
theorem sAddI (prog : Program) (w : World) (top : KT) (a b : Int) (t u : Nat) (v : Int) (h : a + b = v) : Spec prog w top (rBin "int.__add__" a b t u v) := by
  subst h; exact sBin prog w top F.slot_int_add F.entry_int_add (F.args_int_add_2 _ _) (AutoIntG4.int___add___int_int_0 a t b u)
theorem sStream (b : Str) (tb : Nat) : Spec prog w top (rStream top b tb) :=
  spec_chk T _ rfl _ _ _ _ (fun _ _ => rcs_nil) _ _ _ _ _ (by exact Nat.le_of_ble_eq_true rfl) (by rfl) (fun _ => by rfl) (by decide) (K.rStream _ b tb)
theorem sLine (sr : Addr) : Spec prog w top (rLine sr) :=
  spec_chk T _ rfl _ _ _ _ (fun _ _ => rcs_nil) _ _ _ _ _ (by exact Nat.le_of_ble_eq_true rfl) (by rfl) (fun _ => by rfl) (by decide) (K.rLine _ sr)
noncomputable def one0 (a : Nat) (pend : List Nat) : Cf := ⟨[], 0, [], a :: pend⟩
noncomputable def owOf (b : Str) (tb : Nat) (ta : Addr) (tt : List Value) (nt ts tz : Nat) (a : Nat) (pend : List Nat) (c : Cf) (kB : Nat) : OW :=
  { b := b, tb := tb, tab := ta, tt := tt, nt := nt, st := 12, ts := ts, size := (a :: pend).length, tz := tz, XS := fun z => wv (a :: pend) (z 0), pf := pfN (0 + (pq a).length) pend, kf := (a :: pend).length + 1, SS := fun m => wv c.seen (m 0), q := 12, SF := (c.st : Int),
    PB := fun m => wt (c.R ++ 4 :: c.L.reverse) (m 2), kB := kB, V := fun i m => oV i (m 3), j := c.R.length }
theorem finF_O (P₀ : Params) (O : FO) (sn : Addr) (b : Str) (tb : Nat) (ta : Addr) (tt : List Value) (nt ts tz : Nat) (a : Nat) (pend : List Nat) (c : Cf) (kB : Nat) : finF P₀ O sn (owOf b tb ta tt nt ts tz a pend c kB) = finO P₀ O sn c 12 kB := by
  funext i m
  match i with
  | 0 => rfl
  | 1 => rfl
  | i + 2 => rfl
theorem sOne (tab : Nat → Nat) (ht : ∀ i, tab i < 24) (b : Str) (a : Nat) (pend : List Nat) (hQ : ∀ k ∈ a :: pend, k < 4) (hn : (a :: pend).length ≤ 7) (hx : Txt b 0 (a :: pend)) (tb : Nat) (ta : Addr) (tt : List Value) (nt ts tz : Nat)
    (htt : ∀ i, i < 9 → ∃ tx, tt[i]? = some (.int (tab i : Int) tx)) :
    Spec prog w top (rOne top w.params (owOf b tb ta tt nt ts tz a pend (runN' tab 12 (one0 a pend)) (ver tab 12 (one0 a pend) ((a :: pend).length + 1)))) := by
  obtain ⟨ha, hh, hr⟩ := txn_of hx
  have h2 : 2 ≤ b.cps.size := has_size T K hh
  have hfine : (one0 a pend).Fine := ⟨by show 0 < 3; decide, by intro k hk; simp [one0] at hk, hQ⟩
  obtain ⟨hf12, hl12⟩ := runN_bounds tab ht 12 (one0 a pend) 7 hfine (by decide) (by simpa [one0] using hn)
  generalize hc : runN' tab 12 (one0 a pend) = c at hf12 hl12
  generalize hkB : ver tab 12 (one0 a pend) ((a :: pend).length + 1) = kB
  have hlw : ∀ (ws : List Nat) (Tk : Nat → Nat), (wv ws Tk).length = ws.length := fun ws Tk => (isW_wv ws Tk).length
  have hlt : ∀ (ws : List Nat) (Tk : Nat → Nat), (txts (wt ws Tk)).length = ws.length := hlw
  simp only [List.length_cons] at hn
  refine spec_chk T _ rfl _ _ _ _ (fun m tk => ?_) _ _ _ _ _ (by exact Nat.le_of_ble_eq_true rfl) (by rfl) (fun _ => by rfl) (by decide) (K.rOne _ (owOf b tb ta tt nt ts tz a pend c kB))
  refine rcs_cons (fun _ => sStream T K _ _) fun x => rcs_cons (fun _ => sLine T K _) fun y => rcs_cons (fun _ => sRgI _ _ _ _ _ _ _ _ (by show (a :: pend).length < 1000; simp; omega)) fun z => rcs_cons (fun _ => ?_) fun u => rcs_cons (fun _ => ?_) fun d => rcs_cons (fun _ => ?_) fun p => rcs_cons (fun _ => sRgI _ _ _ _ _ _ _ _ (by show 12 < 1000; decide)) fun g => rcs_cons (fun _ => ?_) fun o =>
    rcs_cons (fun _ => ?_) fun i => rcs_cons (fun _ => sAddI _ _ _ _ _ _ _ _ rfl) fun _ => rcs_cons (fun _ => ?_) fun e => rcs_cons (fun _ => ?_) fun e => rcs_nil
  · exact sC1B T K _ _ _ _ _ _ _ _ _ _ _ _ _ _ _ _ (c1_first T K (wOf x y b tb) h2 _ _ _ _ _ _ a pend _ ha hh hr (by omega))
  · exact sAdd _ _ _ _ _ _ _ _ _ (by show (wv (a :: pend) (u.m 0)).length < 400; rw [hlw]; simp; omega) (by simp)
  · have hw : IsW ((a :: pend) ++ [4]) (wv (a :: pend) (u.m 0) ++ [Value.str bar (u.n 1)]) := (isW_wv _ _).append (.one 4 _)
    have hl := hw.length
    simp only [List.length_append, List.length_cons, List.length_nil] at hl
    have := pu_first T K (wOf x y b tb) (foOf (owOf b tb ta tt nt ts tz a pend c kB) m tk) (d.n 0) (d.n 2) 0 (wv (a :: pend) (u.m 0) ++ [Value.str bar (u.n 1)]) _ hw (by simp) (by simp only [List.length_append, List.length_cons, List.length_nil]; omega)
    rw [List.getLast_concat, show (wv (a :: pend) (u.m 0) ++ [Value.str bar (u.n 1)]).length = (a :: pend).length + 1 by simp only [List.length_append, List.length_cons, List.length_nil]; omega] at this
    exact this
  · have hw : IsW ((a :: pend) ++ 4 :: [].reverse) (wv (a :: pend) (u.m 0) ++ [Value.str bar (u.n 1)]) := (isW_wv _ _).append (.one 4 _)
    have := on_first T K tab ht (wOf x y b tb) (foOf (owOf b tb ta tt nt ts tz a pend c kB) m tk) (g.n 2) (p.n 0) tt nt htt 11 0 a (p.n 1) (p.m 0 0) (p.n 1 + 2) (p.n 1 + 1) ((a :: pend).length + 1) pend (.str bar (u.n 1)) _ (by decide) ⟨hfine, hw, .nil, rfl, by simp, by simp; omega⟩
    rw [show (⟨[], 0, [], a :: pend⟩ : Cf) = one0 a pend from rfl, show 11 + 1 = 12 from rfl, hc, hkB] at this
    rw [← finF_O T K w.params _ _ b tb ta tt nt ts tz a pend c kB] at this
    exact this
  · refine sIndex _ _ _ _ _ _ _ _ _ (by show (wt (c.R ++ 4 :: c.L.reverse) (o.m 2)).length < 1000; rw [wt_len]; simp; omega) ?_ fun m q hm hq => ?_
    · show ((wt (c.R ++ 4 :: c.L.reverse) (o.m 2))[c.R.length]?).map (·.1) = some bar
      rw [wt_at]; simp; rfl
    · have e := wt_at (c.R ++ 4 :: c.L.reverse) (o.m 2) m
      have hm' : m < c.R.length := hm
      have hq' : (wt (c.R ++ 4 :: c.L.reverse) (o.m 2))[m]? = some q := hq
      rw [hq', List.getElem?_append_left hm', List.getElem?_eq_getElem hm'] at e
      have e' : q.1 = pw c.R[m] := by simpa using e
      rw [e']
      exact pw_bar _ (hf12.R _ (List.getElem_mem _))
  · exact sFrom _ _ _ _ _ _ _ _ _ (by show (txts (wt (c.R ++ 4 :: c.L.reverse) (o.m 2))).length < 1000; rw [hlt]; simp; omega)
  · exact sUpto _ _ _ _ _ _ _ _ _ (by show (txts (wt (c.R ++ 4 :: c.L.reverse) (o.m 2))).length < 1000; rw [hlt]; simp; omega)
end
end Mine
end
end
section
open PySem PySem.W PySem.W.X PyProof.Rows PySem.Calls
noncomputable section
namespace Mine
/-! _law_plainly -/
noncomputable def pV (i : Nat) (m : Nat → Nat) : Value := match i with
  | 0 => .int (Int.ofNat (m 0)) (m 1)
  | _ => .int (Int.ofNat (m 2)) (m 3)
noncomputable def plS (c : Cf) (q : Nat) : MM → Obj := fun m => lstO (iv c.seen (m 0)) q
noncomputable def plC (c : Cf) : MM → Obj := fun m => lstO (iv (c.L.reverse ++ c.R) (m 2)) 0
noncomputable def plF (P₀ : Params) (O : PF) (sn : Addr) (c : Cf) : Addr → MM → Obj := fun cl m => O.fr P₀ cl (Int.ofNat c.L.length) (m 1 0) (c.st : Int) (m 1 1) sn (kP P₀ (m 1 2) (m 1 3) (pV 0 (m 3)) (pV 1 (m 3))) 8
structure PlOk (c : Cf) (xs ss : List Value) (cnt : Nat) : Prop where
  fine : c.Fine
  x : IsI (c.L.reverse ++ c.R) xs
  s : IsI c.seen ss
  ns : c.seen.length = cnt
  n2 : c.R.length + c.L.length ≤ 40 + 2 * cnt
section
variable {prog : Program} {w : World} {top : KT} (T : Top top prog w) (K : Checks w.params prog top)
include T K
theorem sMin (c ta tb : Nat) : Spec prog w top (rMin (c : Int) ta tb ((min c 2 : Nat) : Int)) := by
  by_cases h : c ≤ 2
  · rw [Nat.min_eq_left h]
    exact spec_chk T _ rfl _ _ _ _ (fun _ _ => rcs_cons (fun _ => sLt _ _ _ _ _ _ _ _ (decide_eq_false (by omega))) fun _ => rcs_nil) _ _ _ _ _ (by exact Nat.le_of_ble_eq_true rfl) (by rfl) (fun _ => by rfl) (by decide) (K.rMinA _ (c : Int) ta tb)
  · rw [Nat.min_eq_right (by omega)]
    exact spec_chk T _ rfl _ _ _ _ (fun _ _ => rcs_cons (fun _ => sLt _ _ _ _ _ _ _ _ (decide_eq_true (by omega))) fun _ => rcs_nil) _ _ _ _ _ (by exact Nat.le_of_ble_eq_true rfl) (by rfl) (fun _ => by rfl) (by decide) (K.rMinB _ (c : Int) ta tb)
theorem pl_mid (X : PT) (on lt fst last : Bool) (z0 : Ov) (te : Nat) (cl : Addr) (Y : List Value) (n a k st x : Nat) (hp : X.p = Int.ofNat a) (hst : X.st = (st : Int)) (hst3 : st < 3) (hY : Y[a]? = some (.int (k : Int) te)) (hYl : Y.length < 380) (hce : X.ce = (k : Int)) (hmi : X.mi = ((min k 2 : Nat) : Int))
    (hix : X.ix = ((3 * st + min k 2 : Nat) : Int)) (hx : X.x = (x : Int)) (hx24 : x < 24) (htab : X.tt[3 * st + min k 2]? = some (.int (x : Int) X.tx)) (hon : decide (x / 4 % 2 = 0) = on) (hA : X.A = fun xs => xs.take a) (hB : X.B = fun xs => xs.drop (a + 1)) (hp1 : X.p1 = Int.ofNat (a + 1))
    (hpn : X.p + (match (generalizing := false) on with | true => 1 | false => -1) = X.pn) (hlt : decide (X.pn < 0) = lt) (hss : X.ss.length < 900)
    (h0 : lt = false → ∀ zq zx zs zm zd : Ov, RcsOk prog w top (X.rest top w.params fst last X.pn (zq.n 2) z0 zx zs te (zd.n 2) (Y.take a ++ [Value.int ((x % 4 : Nat) : Int) (zm.n 2)] ++ Y.drop (a + 1)) 0))
    (h1 : lt = true → ∀ zl zx zs zm ze : Ov, RcsOk prog w top (X.rest top w.params fst last 0 (ze.n 1) z0 zx zs te (ze.n 2) ([Value.int 0 (zl.n 1)] ++ (Y.take a ++ [Value.int ((x % 4 : Nat) : Int) (zm.n 2)] ++ Y.drop (a + 1))) 0)) :
    RcsOk prog w top (X.mid top w.params on lt fst last z0 te cl Y n) := by
  obtain ⟨O, it, sn, cl0, tt, nt, p, tp, st0, ts, t6, v6, t7, v7, ss, q, xs, n0, c, r, te0, te1, mi, ix, x0, tx, A, B, p1, pn, FS, FC, FF⟩ := X
  dsimp only at hp hst hce hmi hix hx htab hA hB hp1 hpn hlt hss h0 h1
  subst hp hst hce hmi hix hx hA hB hp1
  obtain ⟨r1, r2, r3, r4, r5⟩ := rule_ints x hx24
  have ha : a < Y.length := (List.getElem?_eq_some_iff.mp hY).1
  have happ : ∀ v, Spec prog w top (rApp sn ss q v) := fun v => sApp _ _ _ _ _ _ _ (by omega)
  have hadd : ∀ t u, Spec prog w top (rBin "int.__add__" (3 * (st : Int)) ((min k 2 : Nat) : Int) t u ((3 * st + min k 2 : Nat) : Int)) := fun t u => sAddI _ _ _ _ _ _ _ _ (by omega)
  refine rcs_cons (fun _ => sItem _ _ _ _ _ _ _ _ _ (by show (0 : Int) ≤ (a : Int); omega) (by show (a : Int) < 1000; omega) (by show Y[(a : Int).toNat]? = _; exact hY)) fun _ => rcs_cons (fun _ => happ _) fun _ => rcs_cons (fun _ => sMulI _ _ _ _ _ _ _ _ rfl (mul3 _)) fun _ =>
    rcs_cons (fun _ => sItem _ _ _ _ _ _ _ _ _ (by show (0 : Int) ≤ (a : Int); omega) (by show (a : Int) < 1000; omega) (by show Y[(a : Int).toNat]? = _; exact hY)) fun _ => rcs_cons (fun _ => sMin T K _ _ _) fun _ => rcs_cons (fun _ => hadd _ _) fun _ =>
    rcs_cons (fun _ => sItem _ _ _ _ _ _ _ _ _ (by show (0 : Int) ≤ ((3 * st + min k 2 : Nat) : Int); omega) (by show ((3 * st + min k 2 : Nat) : Int) < 1000; omega) (by show tt[((3 * st + min k 2 : Nat) : Int).toNat]? = _; exact htab)) fun zx =>
    rcs_cons (fun _ => sUpto _ _ _ _ _ _ _ _ _ (by omega)) fun za => rcs_cons (fun _ => sModI _ _ _ _ _ _ _ _ (by decide) r1) fun zm => rcs_cons (fun _ => sAdd _ _ _ _ _ _ _ _ _ (by show (Y.take a).length < 400; rw [List.length_take]; omega) (by simp)) fun zb =>
    rcs_cons (fun _ => sAddI _ _ _ _ _ _ _ _ rfl) fun zp => rcs_cons (fun _ => sFrom _ _ _ _ _ _ _ _ _ (by omega)) fun zc =>
    rcs_cons (fun _ => sAdd _ _ _ _ _ _ _ _ _ (by show (Y.take a ++ [_]).length < 400; rw [List.length_append, List.length_take]; simp; omega) (by show (Y.drop (a + 1)).length < 400; rw [List.length_drop]; omega)) fun zd =>
    rcs_cons (fun _ => sDivI _ _ _ _ _ _ _ _ (by decide) (pylong4 _) r2) fun _ => rcs_cons (fun _ => sModI _ _ _ _ _ _ _ _ (by decide) r3) fun _ => rcs_cons (fun _ => sEq _ _ _ _ _ _ _ _ (by rw [← hon]; exact r5)) fun _ => rcs_cons (fun _ => sAddI _ _ _ _ _ _ _ _ hpn) fun zq =>
    rcs_cons (fun _ => sDivI _ _ _ _ _ _ _ _ (by decide) (pylong8 _) r4) fun zs => rcs_cons (fun _ => sLt _ _ _ _ _ _ _ _ hlt) fun zl => ?_
  cases lt with
  | false => exact h0 rfl zq zx zs zm zd
  | true => exact rcs_cons (fun _ => sAdd _ _ _ _ _ _ _ _ _ (by simp) (by show (Y.take a ++ [_] ++ Y.drop (a + 1)).length < 400; rw [List.length_append, List.length_append, List.length_take, List.length_drop]; simp; omega)) fun ze => h1 rfl zl zx zs zm ze
end
end Mine
end
end
section
open PySem PySem.W PySem.W.X PyProof.Rows PySem.Calls
noncomputable section
namespace Mine
theorem newCells {A B : List Nat} {k x : Nat} {Y : List Value} (h : IsI (A ++ k :: B) Y) (t : Nat) : IsI (A ++ x :: B) (Y.take A.length ++ [Value.int (x : Int) t] ++ Y.drop (A.length + 1)) := by
  have h1 := h.take A.length
  have h2 := h.drop (A.length + 1)
  rw [List.take_left' rfl] at h1
  rw [show (A ++ k :: B).drop (A.length + 1) = B by rw [List.drop_append]; simp] at h2
  have := (h1.append (.one x t)).append h2
  simpa using this
noncomputable def isNil (l : List Nat) : Bool := match l with | [] => true | _ => false
noncomputable def ltB (on : Bool) (L : List Nat) : Bool := match on with | true => false | false => isNil L
noncomputable def pnI (on : Bool) (L : List Nat) : Int := match on with | true => Int.ofNat (L.length + 1) | false => Int.ofNat L.length + -1
/-- one turn's data -/
noncomputable def ptOf (O : PF) (it sn cl : Addr) (tt : List Value) (nt tp ts t6 t7 : Nat) (v6 v7 : Value) (ss : List Value) (cnt : Nat) (xs : List Value) (n r : Nat) (c : Cf) (x te tx : Nat) (pn : Int) (FS FC : MM → Obj) (FF : Addr → MM → Obj) : PT :=
  ⟨O, it, sn, cl, tt, nt, Int.ofNat c.L.length, tp, (c.st : Int), ts, t6, v6, t7, v7, ss, cnt, xs, n, cnt, r, (c.k : Int), te, ((min c.k 2 : Nat) : Int), ((3 * c.st + min c.k 2 : Nat) : Int), (x : Int), tx, fun xs => xs.take c.L.length, fun xs => xs.drop (c.L.length + 1), Int.ofNat (c.L.length + 1), pn, FS, FC, FF⟩
section
variable {prog : Program} {w : World} {top : KT} (T : Top top prog w) (K : Checks w.params prog top)
include T K
/-- the run of one turn, its rest given -/
theorem pl_run (tab : Nat → Nat) (ht : ∀ i, tab i < 24) (O : PF) (it sn cl : Addr) (tt : List Value) (nt tp ts t6 t7 : Nat) (v6 v7 : Value) (ss : List Value) (cnt : Nat) (xs : List Value) (n r : Nat) (c : Cf) (te tx : Nat) (pn : Int) (FS FC : MM → Obj) (FF : Addr → MM → Obj)
    (h : PlOk c xs ss cnt) (hcnt : cnt ≤ 12) (htx : tt[3 * c.st + min c.k 2]? = some (.int (c.x tab : Int) tx)) (fst last : Bool) (on lt b : Bool) (hon : decide (c.x tab / 4 % 2 = 0) = on) (hb : b = isNil c.R) (hlt : lt = ltB on c.L)
    (hpn : pn = pnI on c.L) (hte : b = false → xs[c.L.length]? = some (.int (c.k : Int) te))
    (h0 : lt = false → ∀ (z0 zq zx zs zm zd : Ov) (te' : Nat) (Z : List Value), (b = false → te' = te) → IsI ((stp tab c).L.reverse ++ (stp tab c).R) Z → pn = Int.ofNat (stp tab c).L.length → RcsOk prog w top ((ptOf O it sn cl tt nt tp ts t6 t7 v6 v7 ss cnt xs n r c (c.x tab) te tx pn FS FC FF).rest top w.params fst last pn (zq.n 2) z0 zx zs te' (zd.n 2) Z 0))
    (h1 : lt = true → ∀ (z0 zx zs ze : Ov) (te' : Nat) (Z : List Value), (b = false → te' = te) → IsI ((stp tab c).L.reverse ++ (stp tab c).R) Z → 0 = (stp tab c).L.length → RcsOk prog w top ((ptOf O it sn cl tt nt tp ts t6 t7 v6 v7 ss cnt xs n r c (c.x tab) te tx pn FS FC FF).rest top w.params fst last 0 (ze.n 1) z0 zx zs te' (ze.n 2) Z 0)) :
    RcsOk prog w top ((ptOf O it sn cl tt nt tp ts t6 t7 v6 v7 ss cnt xs n r c (c.x tab) te tx pn FS FC FF).run top w.params b on lt fst last) := by
  have hx : c.x tab < 24 := ht _
  have hxs := h.x.length
  simp at hxs
  have n2 := h.n2
  have hss := h.s.length
  have hns := h.ns
  -- the cells to come
  have cells : ∀ (Y : List Value) (tm : Nat), IsI (c.L.reverse ++ c.k :: c.R.tail) Y → IsI (c.L.reverse ++ (c.x tab % 4) :: c.R.tail) (Y.take c.L.length ++ [Value.int ((c.x tab % 4 : Nat) : Int) tm] ++ Y.drop (c.L.length + 1)) := fun Y tm hY => by
    have := newCells (x := c.x tab % 4) hY tm
    rwa [List.length_reverse] at this
  have mid : ∀ (z0 : Ov) (te' : Nat) (cl' : Addr) (Y : List Value) (n' : Nat), (b = false → te' = te) → IsI (c.L.reverse ++ c.k :: c.R.tail) Y → Y[c.L.length]? = some (.int (c.k : Int) te') → Y.length < 380 →
      RcsOk prog w top ((ptOf O it sn cl tt nt tp ts t6 t7 v6 v7 ss cnt xs n r c (c.x tab) te tx pn FS FC FF).mid top w.params on lt fst last z0 te' cl' Y n') := by
    intro z0 te' cl' Y n' het hY hYa hYl
    refine pl_mid T K (ptOf O it sn cl tt nt tp ts t6 t7 v6 v7 ss cnt xs n r c (c.x tab) te tx pn FS FC FF) on lt fst last z0 te' cl' Y n' c.L.length c.k c.st (c.x tab) rfl rfl h.fine.st hYa hYl rfl rfl rfl rfl hx htx hon rfl rfl rfl ?_ ?_ (by show ss.length < 900; omega) ?_ ?_
    · show Int.ofNat c.L.length + _ = pn
      rw [hpn]; cases on <;> rfl
    · show decide (pn < 0) = lt
      rw [hpn, hlt]
      cases on with
      | true => exact decide_eq_false (by show ¬ ((c.L.length + 1 : Nat) : Int) < 0; omega)
      | false =>
        cases hL : c.L with
        | nil => rfl
        | cons l L' => exact decide_eq_false (by show ¬ (((L'.length + 1 : Nat) : Int) + -1 < 0); omega)
    · intro hl0 zq zx zs zm zd
      refine h0 hl0 z0 zq zx zs zm zd te' _ het ?_ ?_
      · have hc := cells Y (zm.n 2) hY
        rw [stp_eq]
        by_cases e : c.x tab / 4 % 2 = 0
        · rw [if_pos e]; simpa using hc
        · rw [if_neg e]
          rw [hlt, ← hon, decide_eq_false e] at hl0
          cases hL : c.L with
          | nil => rw [hL] at hl0; cases hl0
          | cons l L' => rw [hL] at hc; simpa using hc
      · rw [stp_eq, hpn]
        by_cases e : c.x tab / 4 % 2 = 0
        · rw [← hon, decide_eq_true e, if_pos e]; rfl
        · rw [hlt, ← hon, decide_eq_false e] at hl0
          rw [← hon, decide_eq_false e, if_neg e]
          cases hL : c.L with
          | nil => rw [hL] at hl0; cases hl0
          | cons l L' => show ((L'.length + 1 : Nat) : Int) + -1 = ((L'.length : Nat) : Int); omega
    · intro hl1 zl zx zs zm ze
      have e : ¬ c.x tab / 4 % 2 = 0 := fun e => by rw [hlt, ← hon, decide_eq_true e] at hl1; cases hl1
      have hL : c.L = [] := by
        rw [hlt, ← hon, decide_eq_false e] at hl1
        cases hL : c.L with
        | nil => rfl
        | cons l L' => rw [hL] at hl1; cases hl1
      refine h1 hl1 z0 zx zs ze te' _ het ?_ ?_
      · have hc := cells Y (zm.n 2) hY
        have := (IsI.one 0 (zl.n 1)).append hc
        rw [stp_eq, if_neg e]
        rw [hL] at this ⊢
        simpa using this
      · rw [stp_eq, if_neg e, hL]; rfl
  refine rcs_cons (fun _ => sRgN _ _ _ _ _ _) fun z0 => rcs_cons (fun _ => sLenL _ _ _ _ _ _ (by show xs.length < 1000; omega)) fun z1 => rcs_cons (fun _ => sEq _ _ _ _ _ _ _ _ ?_) fun z2 => ?_
  · show ((Int.ofNat c.L.length : Int) == Int.ofNat xs.length) = b
    rw [hb]
    cases hR : c.R with
    | nil =>
      show ((c.L.length : Int) == (xs.length : Int)) = true
      rw [show xs.length = c.L.length by rw [hxs, hR]; simp]; simp
    | cons k R' =>
      have : ¬ ((c.L.length : Int) = (xs.length : Int)) := by rw [hxs, hR]; simp; omega
      show ((c.L.length : Int) == (xs.length : Int)) = false
      simpa using this
  · cases hR : c.R with
    | cons k R' =>
      have hb' : b = false := by rw [hb, hR]; rfl
      subst hb'
      refine mid z0 te cl xs n (fun _ => rfl) ?_ (hte rfl) (by omega)
      have := h.x
      rw [hR] at this ⊢
      have ek : c.k = k := by unfold Cf.k; rw [hR]; rfl
      rw [ek]; exact this
    | nil =>
      have hb' : b = true := by rw [hb, hR]; rfl
      subst hb'
      refine rcs_cons (fun _ => sAdd _ _ _ _ _ _ _ _ _ (by show xs.length < 400; omega) (by simp)) fun z3 => ?_
      have ek : c.k = 0 := by unfold Cf.k; rw [hR]; rfl
      have h2 := h.x
      rw [hR, List.append_nil] at h2
      have hl2 := h2.length
      simp at hl2
      refine mid z0 (z2.n 1) (z3.n 2) (xs ++ [Value.int 0 (z2.n 1)]) 0 (fun e => by cases e) ?_ ?_ (by simp; omega)
      · rw [hR, ek]; exact h2.append (.one 0 _)
      · rw [ek, ← hl2]; simp
end
end Mine
end
end
section
open PySem PySem.W PySem.W.X PyProof.Rows PySem.Calls
noncomputable section
namespace Mine
section
variable {prog : Program} {w : World} {top : KT} (T : Top top prog w) (K : Checks w.params prog top)
include T K
omit T K in
theorem pl_te {c : Cf} {xs ss : List Value} {cnt : Nat} (h : PlOk c xs ss cnt) : ∃ te, isNil c.R = false → xs[c.L.length]? = some (.int (c.k : Int) te) := by
  cases hR : c.R with
  | nil => exact ⟨0, fun e => by cases e⟩
  | cons k R' =>
    have hx := h.x
    rw [hR] at hx
    obtain ⟨te, hte⟩ := hx.at (i := c.L.length) (k := k) (by simp)
    have ek : c.k = k := by unfold Cf.k; rw [hR]; rfl
    exact ⟨te, fun _ => by rw [ek]; exact hte⟩
omit T K in
theorem pl_next {tab : Nat → Nat} (ht : ∀ i, tab i < 24) {c : Cf} {xs ss Z : List Value} {cnt : Nat} (h : PlOk c xs ss cnt) (te : Nat) (hZ : IsI ((stp tab c).L.reverse ++ (stp tab c).R) Z) : PlOk (stp tab c) Z (ss ++ [Value.int (c.k : Int) te]) (cnt + 1) := by
  have n2 := h.n2
  have esn : (stp tab c).seen = c.seen ++ [c.k] := by rw [stp_eq]; split <;> rfl
  refine ⟨stp_fine ht h.fine, hZ, by rw [esn]; exact h.s.append (.one _ _), by rw [esn]; simp [h.ns], ?_⟩
  rw [stp_eq]; split <;> simp <;> omega
theorem pl_last (tab : Nat → Nat) (ht : ∀ i, tab i < 24) (O : PF) (it sn cl : Addr) (tt : List Value) (nt : Nat) (htt : ∀ i, i < 9 → ∃ tx, tt[i]? = some (.int (tab i : Int) tx)) (c : Cf) (cnt tp ts t6 t7 n : Nat) (v6 v7 : Value) (ss xs : List Value) (hc : cnt + 1 ≤ 12) (h : PlOk c xs ss cnt) :
    Spec prog w top (rPlL top w.params O it sn cl tt nt (Int.ofNat c.L.length) tp (c.st : Int) ts (kP w.params t6 t7 v6 v7) 8 ss cnt xs n cnt 1 (plS (stp tab c) (cnt + 1)) (plC (stp tab c)) (plF w.params O sn (stp tab c))) := by
  have hk := Cf.k_lt h.fine
  have hst := h.fine.st
  obtain ⟨tx, htx⟩ := htt (3 * c.st + min c.k 2) (by omega)
  obtain ⟨te, hte⟩ := pl_te h
  have lv9 : (690 : Nat) ≤ 900 := by decide
  have esn : (stp tab c).seen = c.seen ++ [c.k] := by rw [stp_eq]; split <;> rfl
  have est : ((c.x tab : Int) / 8) = ((stp tab c).st : Int) := by rw [stp_eq]; split <;> rfl
  generalize hon : decide (c.x tab / 4 % 2 = 0) = on
  have run := fun (FS FC : MM → Obj) (FF : Addr → MM → Obj) (lt b : Bool) (hlt : lt = ltB on c.L) (hb : b = isNil c.R) => pl_run T K tab ht O it sn cl tt nt tp ts t6 t7 v6 v7 ss cnt xs n 0 c te tx (pnI on c.L) FS FC FF h (by omega) htx false true on lt b hon hb hlt rfl (by rw [hb]; exact hte) (fun _ _ _ _ _ _ _ _ _ _ _ _ => rcs_nil) (fun _ _ _ _ _ _ _ _ _ _ => rcs_nil)
  -- what the last turn leaves, told again
  have tell : ∀ (x : Ov) (S Z : List Value) (p1 : Int) (S1 : Obj) (C1 : Obj) (F1 : Addr → Obj), IsI (stp tab c).seen S → IsI ((stp tab c).L.reverse ++ (stp tab c).R) Z → p1 = Int.ofNat (stp tab c).L.length → S1 = lstO S (cnt + 1) → C1 = lstO Z 0 →
      (∀ cl, F1 cl = O.fr w.params cl p1 (x.m 1 0) ((c.x tab : Int) / 8) (x.m 1 1) sn (kP w.params t6 t7 (.int (Int.ofNat cnt) (x.m 1 2)) (.int (c.x tab : Int) tx)) 8) →
      ∃ y : Ov, y.n 0 = x.n 0 ∧ y.n 1 = x.n 1 ∧ y.n 2 = x.n 2 ∧ y.o = x.o ∧ plS (stp tab c) (cnt + 1) y.m = S1 ∧ plC (stp tab c) y.m = C1 ∧ plF w.params O sn (stp tab c) (x.n 2) y.m = F1 (x.n 2) := by
    rintro x S Z p1 S1 C1 F1 hS hZ rfl rfl rfl hF
    obtain ⟨T1, rfl⟩ := hS.of
    obtain ⟨T2, rfl⟩ := hZ.of
    refine ⟨⟨x.n, fun i => match i with | 0 => T1 | 1 => (fun j => match j with | 0 => x.m 1 0 | 1 => x.m 1 1 | 2 => t6 | _ => t7) | 2 => T2 | _ => (fun j => match j with | 0 => cnt | 1 => x.m 1 2 | 2 => c.x tab | _ => tx), x.o, x.p, x.b⟩, rfl, rfl, rfl, rfl, rfl, rfl, ?_⟩
    rw [hF, est]; rfl
  have hseen : ∀ t, IsI (stp tab c).seen (ss ++ [Value.int (c.k : Int) t]) := fun t => by rw [esn]; exact h.s.append (.one _ _)
  have cells : ∀ (Y : List Value) (tm : Nat), IsI (c.L.reverse ++ c.k :: c.R.tail) Y → IsI (c.L.reverse ++ (c.x tab % 4) :: c.R.tail) (Y.take c.L.length ++ [Value.int ((c.x tab % 4 : Nat) : Int) tm] ++ Y.drop (c.L.length + 1)) := fun Y tm hY => by
    have := newCells (x := c.x tab % 4) hY tm
    rwa [List.length_reverse] at this
  have hY0 : isNil c.R = false → IsI (c.L.reverse ++ c.k :: c.R.tail) xs := fun e => by
    cases hR : c.R with
    | nil => rw [hR] at e; cases e
    | cons k R' =>
      have := h.x
      rw [hR] at this
      have ek : c.k = k := by unfold Cf.k; rw [hR]; rfl
      rw [ek]; exact this
  have hY1 : isNil c.R = true → ∀ t, IsI (c.L.reverse ++ c.k :: c.R.tail) (xs ++ [Value.int 0 t]) := fun e t => by
    cases hR : c.R with
    | cons k R' => rw [hR] at e; cases e
    | nil =>
      have := h.x
      rw [hR, List.append_nil] at this
      have ek : c.k = 0 := by unfold Cf.k; rw [hR]; rfl
      rw [ek]; exact this.append (.one 0 t)
  have z0 : ∀ Z, ltB on c.L = false → IsI (c.L.reverse ++ (c.x tab % 4) :: c.R.tail) Z → IsI ((stp tab c).L.reverse ++ (stp tab c).R) Z ∧ pnI on c.L = Int.ofNat (stp tab c).L.length := fun Z hl hZ => by
    rw [stp_eq]
    by_cases e : c.x tab / 4 % 2 = 0
    · rw [if_pos e, ← hon, decide_eq_true e]; exact ⟨by simpa using hZ, rfl⟩
    · rw [← hon, decide_eq_false e] at hl ⊢
      rw [if_neg e]
      cases hL : c.L with
      | nil => rw [hL] at hl; cases hl
      | cons l L' => rw [hL] at hZ; exact ⟨by simpa using hZ, by show ((L'.length + 1 : Nat) : Int) + -1 = ((L'.length : Nat) : Int); omega⟩
  have z1 : ∀ Z t, ltB on c.L = true → IsI (c.L.reverse ++ (c.x tab % 4) :: c.R.tail) Z → IsI ((stp tab c).L.reverse ++ (stp tab c).R) ([Value.int 0 t] ++ Z) ∧ (0 : Int) = Int.ofNat (stp tab c).L.length := fun Z t hl hZ => by
    rw [stp_eq]
    by_cases e : c.x tab / 4 % 2 = 0
    · rw [← hon, decide_eq_true e] at hl; cases hl
    · rw [← hon, decide_eq_false e] at hl
      rw [if_neg e]
      cases hL : c.L with
      | nil => rw [hL] at hZ; exact ⟨by have := (IsI.one 0 t).append hZ; simpa using this, rfl⟩
      | cons l L' => rw [hL] at hl; cases hl
  generalize hb : isNil c.R = b at *
  generalize hlt : ltB on c.L = lt at *
  let X : PT := ptOf O it sn cl tt nt tp ts t6 t7 v6 v7 ss cnt xs n 0 c (c.x tab) te tx (pnI on c.L) (fun _ => default) (fun _ => default) (fun _ _ => default)
  have fin : ∀ {r : Rc} {S : Ov → List Value} {Z : Ov → List Value} {p1 : Int}, Spec prog w top r → r.code = cPl top O it → r.lvl = 690 → r.fr = none → r.pre = [(it, rgItO cnt 1), (sn, lstO ss cnt), (O.tab, lstO tt nt), (cl, lstO xs n), (O.L, O.fr w.params cl (Int.ofNat c.L.length) tp (c.st : Int) ts sn (kP w.params t6 t7 v6 v7) 8)] →
      (∀ x, r.res x = .ok .next) → (∀ x, r.new x = [(x.n 2, lstO (Z x) 0)]) → (∀ x, r.post x = [x.o 0, lstO (S x) (cnt + 1), lstO tt nt, lstO xs n, O.fr w.params (x.n 2) p1 (x.m 1 0) ((c.x tab : Int) / 8) (x.m 1 1) sn (kP w.params t6 t7 (.int (Int.ofNat cnt) (x.m 1 2)) (.int (c.x tab : Int) tx)) 8]) →
      (∀ x, IsI (stp tab c).seen (S x)) → (∀ x, IsI ((stp tab c).L.reverse ++ (stp tab c).R) (Z x) ∧ p1 = Int.ofNat (stp tab c).L.length) →
      Spec prog w top (rPlL top w.params O it sn cl tt nt (Int.ofNat c.L.length) tp (c.st : Int) ts (kP w.params t6 t7 v6 v7) 8 ss cnt xs n cnt 1 (plS (stp tab c) (cnt + 1)) (plC (stp tab c)) (plF w.params O sn (stp tab c))) := by
    intro r S Z p1 hr g1 g2 g3 g4 g5 g6 g7 g8 g9
    refine conv0 hr g1.symm (by rw [g2]; exact Nat.le_refl _) (.inl g3) g4.symm fun x => ?_
    obtain ⟨y, y0, y1, y2, yo, ys, yc, yf⟩ := tell x (S x) (Z x) p1 _ _ (fun cl => _) (g8 x) (g9 x).1 (g9 x).2 rfl rfl (fun cl => rfl)
    refine ⟨y, (g5 x).symm ▸ rfl, y0, y1, ?_, ?_⟩
    · rw [g6]
      show [(y.n 2, plC (stp tab c) y.m)] = _
      rw [yc, y2]
    · rw [g7]
      show [y.o 0, plS (stp tab c) (cnt + 1) y.m, lstO tt nt, lstO xs n, plF w.params O sn (stp tab c) (y.n 2) y.m] = _
      rw [ys, yo, y2, yf]
  cases b with
  | false =>
    have hc0 := fun tm => cells xs tm (hY0 rfl)
    cases lt with
    | false =>
      cases on with
      | true => exact fin (spec_chk T _ rfl _ _ _ _ (fun _ _ => run _ _ _ _ _ rfl rfl) _ _ _ _ _ lv9 (caller_for _ _ _) (fun _ => by rfl) (by decide) (K.rPlU0 _ X)) rfl rfl rfl rfl (fun _ => rfl) (fun _ => rfl) (fun _ => rfl) (fun x => hseen _) (fun x => z0 _ rfl (hc0 (x.m 1 3)))
      | false => exact fin (spec_chk T _ rfl _ _ _ _ (fun _ _ => run _ _ _ _ _ rfl rfl) _ _ _ _ _ lv9 (caller_for _ _ _) (fun _ => by rfl) (by decide) (K.rPlU1 _ X)) rfl rfl rfl rfl (fun _ => rfl) (fun _ => rfl) (fun _ => rfl) (fun x => hseen _) (fun x => z0 _ rfl (hc0 (x.m 1 3)))
    | true =>
      cases on with
      | true => cases hlt
      | false => exact fin (spec_chk T _ rfl _ _ _ _ (fun _ _ => run _ _ _ _ _ rfl rfl) _ _ _ _ _ lv9 (caller_for _ _ _) (fun _ => by rfl) (by decide) (K.rPlU2 _ X)) rfl rfl rfl rfl (fun _ => rfl) (fun _ => rfl) (fun _ => rfl) (fun x => hseen _) (fun x => z1 _ (x.m 1 5) rfl (hc0 (x.m 1 3)))
  | true =>
    have hc1 := fun t tm => cells _ tm (hY1 rfl t)
    cases lt with
    | false =>
      cases on with
      | true => exact fin (spec_chk T _ rfl _ _ _ _ (fun _ _ => run _ _ _ _ _ rfl rfl) _ _ _ _ _ lv9 (caller_for _ _ _) (fun _ => by rfl) (by decide) (K.rPlU3 _ X)) rfl rfl rfl rfl (fun _ => rfl) (fun _ => rfl) (fun _ => rfl) (fun x => hseen _) (fun x => z0 _ rfl (hc1 (x.m 1 4) (x.m 1 3)))
      | false => exact fin (spec_chk T _ rfl _ _ _ _ (fun _ _ => run _ _ _ _ _ rfl rfl) _ _ _ _ _ lv9 (caller_for _ _ _) (fun _ => by rfl) (by decide) (K.rPlU4 _ X)) rfl rfl rfl rfl (fun _ => rfl) (fun _ => rfl) (fun _ => rfl) (fun x => hseen _) (fun x => z0 _ rfl (hc1 (x.m 1 4) (x.m 1 3)))
    | true =>
      cases on with
      | true => cases hlt
      | false => exact fin (spec_chk T _ rfl _ _ _ _ (fun _ _ => run _ _ _ _ _ rfl rfl) _ _ _ _ _ lv9 (caller_for _ _ _) (fun _ => by rfl) (by decide) (K.rPlU5 _ X)) rfl rfl rfl rfl (fun _ => rfl) (fun _ => rfl) (fun _ => rfl) (fun x => hseen _) (fun x => z1 _ (x.m 1 5) rfl (hc1 (x.m 1 4) (x.m 1 3)))
end
end Mine
end
end
section
open PySem PySem.W PySem.W.X PyProof.Rows PySem.Calls
noncomputable section
namespace Mine
section
variable {prog : Program} {w : World} {top : KT} (T : Top top prog w) (K : Checks w.params prog top)
include T K
theorem pl_loop (tab : Nat → Nat) (ht : ∀ i, tab i < 24) (O : PF) (it sn : Addr) (tt : List Value) (nt : Nat) (htt : ∀ i, i < 9 → ∃ tx, tt[i]? = some (.int (tab i : Int) tx)) :
    ∀ (r : Nat) (c : Cf) (cl : Addr) (cnt tp ts t6 t7 n : Nat) (v6 v7 : Value) (ss xs : List Value), cnt + r + 1 ≤ 12 → PlOk c xs ss cnt →
    Spec prog w top (rPlL top w.params O it sn cl tt nt (Int.ofNat c.L.length) tp (c.st : Int) ts (kP w.params t6 t7 v6 v7) 8 ss cnt xs n cnt (r + 1) (plS (runN' tab (r + 1) c) (cnt + r + 1)) (plC (runN' tab (r + 1) c)) (plF w.params O sn (runN' tab (r + 1) c)))
  | 0, c, cl, cnt, tp, ts, t6, t7, n, v6, v7, ss, xs, hc, h => pl_last T K tab ht O it sn cl tt nt htt c cnt tp ts t6 t7 n v6 v7 ss xs hc h
  | r + 1, c, cl, cnt, tp, ts, t6, t7, n, v6, v7, ss, xs, hc, h => by
    have hk := Cf.k_lt h.fine
    have hst := h.fine.st
    obtain ⟨tx, htx⟩ := htt (3 * c.st + min c.k 2) (by omega)
    obtain ⟨te, hte⟩ := pl_te h
    have lv9 : (690 : Nat) ≤ 900 := by decide
    have est : ((c.x tab : Int) / 8) = ((stp tab c).st : Int) := by rw [stp_eq]; split <;> rfl
    have ih : ∀ (pn : Int) (tpn : Nat) (z0 zs : Ov) (te' : Nat) (cl' : Addr) (Z : List Value), IsI ((stp tab c).L.reverse ++ (stp tab c).R) Z → pn = Int.ofNat (stp tab c).L.length →
        Spec prog w top (rPlL top w.params O it sn cl' tt nt pn tpn ((c.x tab : Int) / 8) (zs.n 2) (kP w.params t6 t7 (.int (Int.ofNat cnt) (z0.n 2)) (.int (c.x tab : Int) tx)) 8 (ss ++ [Value.int (c.k : Int) te']) (cnt + 1) Z 0 (cnt + 1) (r + 1) (plS (runN' tab (r + 1 + 1) c) (cnt + (r + 1) + 1)) (plC (runN' tab (r + 1 + 1) c)) (plF w.params O sn (runN' tab (r + 1 + 1) c))) := by
      intro pn tpn z0 zs te' cl' Z hZ hpn
      subst hpn
      rw [est]
      have := pl_loop tab ht O it sn tt nt htt r (stp tab c) cl' (cnt + 1) tpn (zs.n 2) t6 t7 0 (.int (Int.ofNat cnt) (z0.n 2)) (.int (c.x tab : Int) tx) (ss ++ [Value.int (c.k : Int) te']) Z (by omega) (pl_next ht h te' hZ)
      rw [show cnt + 1 + r + 1 = cnt + (r + 1) + 1 by omega] at this
      exact this
    generalize hon : decide (c.x tab / 4 % 2 = 0) = on
    let X : PT := ptOf O it sn cl tt nt tp ts t6 t7 v6 v7 ss cnt xs n r c (c.x tab) te tx (pnI on c.L) (plS (runN' tab (r + 1 + 1) c) (cnt + (r + 1) + 1)) (plC (runN' tab (r + 1 + 1) c)) (plF w.params O sn (runN' tab (r + 1 + 1) c))
    have run := fun (lt b : Bool) (hlt : lt = ltB on c.L) (hb : b = isNil c.R) => pl_run T K tab ht O it sn cl tt nt tp ts t6 t7 v6 v7 ss cnt xs n r c te tx (pnI on c.L) (plS (runN' tab (r + 1 + 1) c) (cnt + (r + 1) + 1)) (plC (runN' tab (r + 1 + 1) c)) (plF w.params O sn (runN' tab (r + 1 + 1) c)) h (by omega) htx false false on lt b hon hb hlt rfl (by rw [hb]; exact hte)
      (fun _ z0 zq zx zs zm zd te' Z _ hZ hp => rcs_cons (fun _ => ih _ _ z0 zs te' _ Z hZ hp) fun _ => rcs_nil) (fun _ z0 zx zs ze te' Z _ hZ hp => rcs_cons (fun _ => ih _ _ z0 zs te' _ Z hZ (by rw [← hp]; rfl)) fun _ => rcs_nil)
    generalize hb : isNil c.R = b at run
    generalize hlt : ltB on c.L = lt at run
    cases b with
    | false =>
      cases lt with
      | false =>
        cases on with
        | true => exact spec_chk T _ rfl _ _ _ _ (fun _ _ => run _ _ rfl rfl) _ _ _ _ _ lv9 (caller_for _ _ _) (fun _ => by rfl) (by decide) (K.rPlT0 _ X)
        | false => exact spec_chk T _ rfl _ _ _ _ (fun _ _ => run _ _ rfl rfl) _ _ _ _ _ lv9 (caller_for _ _ _) (fun _ => by rfl) (by decide) (K.rPlT1 _ X)
      | true =>
        cases on with
        | true => cases hlt
        | false => exact spec_chk T _ rfl _ _ _ _ (fun _ _ => run _ _ rfl rfl) _ _ _ _ _ lv9 (caller_for _ _ _) (fun _ => by rfl) (by decide) (K.rPlT2 _ X)
    | true =>
      cases lt with
      | false =>
        cases on with
        | true => exact spec_chk T _ rfl _ _ _ _ (fun _ _ => run _ _ rfl rfl) _ _ _ _ _ lv9 (caller_for _ _ _) (fun _ => by rfl) (by decide) (K.rPlT3 _ X)
        | false => exact spec_chk T _ rfl _ _ _ _ (fun _ _ => run _ _ rfl rfl) _ _ _ _ _ lv9 (caller_for _ _ _) (fun _ => by rfl) (by decide) (K.rPlT4 _ X)
      | true =>
        cases on with
        | true => cases hlt
        | false => exact spec_chk T _ rfl _ _ _ _ (fun _ _ => run _ _ rfl rfl) _ _ _ _ _ lv9 (caller_for _ _ _) (fun _ => by rfl) (by decide) (K.rPlT5 _ X)
theorem pl_first (tab : Nat → Nat) (ht : ∀ i, tab i < 24) (O : PF) (it sn cl : Addr) (tt : List Value) (nt : Nat) (htt : ∀ i, i < 9 → ∃ tx, tt[i]? = some (.int (tab i : Int) tx)) (r : Nat) (a : Nat) (R' : List Nat) (tp ts n : Nat) (xs : List Value) (hr : r + 2 ≤ 12) (h : PlOk (one0 a R') xs [] 0) :
    Spec prog w top (rPlL top w.params O it sn cl tt nt 0 tp 0 ts [] 6 [] 0 xs n 0 (r + 2) (plS (runN' tab (r + 2) (one0 a R')) (r + 2)) (plC (runN' tab (r + 2) (one0 a R'))) (plF w.params O sn (runN' tab (r + 2) (one0 a R')))) := by
  have hk := Cf.k_lt h.fine
  have hst := h.fine.st
  obtain ⟨tx, htx⟩ := htt (3 * (one0 a R').st + min (one0 a R').k 2) (by omega)
  obtain ⟨te, hte⟩ := pl_te h
  have lv9 : (690 : Nat) ≤ 900 := by decide
  have est : (((one0 a R').x tab : Int) / 8) = ((stp tab (one0 a R')).st : Int) := by rw [stp_eq]; split <;> rfl
  have ih : ∀ (pn : Int) (tpn t6 t7 : Nat) (z0 zs : Ov) (te' : Nat) (cl' : Addr) (Z : List Value), IsI ((stp tab (one0 a R')).L.reverse ++ (stp tab (one0 a R')).R) Z → pn = Int.ofNat (stp tab (one0 a R')).L.length →
      Spec prog w top (rPlL top w.params O it sn cl' tt nt pn tpn (((one0 a R').x tab : Int) / 8) (zs.n 2) (kP w.params t6 t7 (.int (Int.ofNat 0) (z0.n 2)) (.int ((one0 a R').x tab : Int) tx)) 8 ([] ++ [Value.int ((one0 a R').k : Int) te']) (0 + 1) Z 0 (0 + 1) (r + 1) (plS (runN' tab (r + 2) (one0 a R')) (r + 2)) (plC (runN' tab (r + 2) (one0 a R'))) (plF w.params O sn (runN' tab (r + 2) (one0 a R')))) := by
    intro pn tpn t6 t7 z0 zs te' cl' Z hZ hpn
    subst hpn
    rw [est]
    have := pl_loop T K tab ht O it sn tt nt htt r (stp tab (one0 a R')) cl' (0 + 1) tpn (zs.n 2) t6 t7 0 (.int (Int.ofNat 0) (z0.n 2)) (.int ((one0 a R').x tab : Int) tx) ([] ++ [Value.int ((one0 a R').k : Int) te']) Z (by omega) (pl_next ht h te' hZ)
    rw [show 0 + 1 + r + 1 = r + 2 by omega] at this
    exact this
  generalize hon : decide ((one0 a R').x tab / 4 % 2 = 0) = on
  let X : PT := ptOf O it sn cl tt nt tp ts 0 0 .none .none [] 0 xs n r (one0 a R') ((one0 a R').x tab) te tx (pnI on []) (plS (runN' tab (r + 2) (one0 a R')) (r + 2)) (plC (runN' tab (r + 2) (one0 a R'))) (plF w.params O sn (runN' tab (r + 2) (one0 a R')))
  have run := fun (lt : Bool) (hlt : lt = ltB on []) => pl_run T K tab ht O it sn cl tt nt tp ts 0 0 .none .none [] 0 xs n r (one0 a R') te tx (pnI on []) (plS (runN' tab (r + 2) (one0 a R')) (r + 2)) (plC (runN' tab (r + 2) (one0 a R'))) (plF w.params O sn (runN' tab (r + 2) (one0 a R'))) h (by omega) htx true false on lt false hon rfl hlt rfl (fun _ => hte rfl)
    (fun _ z0 zq zx zs zm zd te' Z _ hZ hp => rcs_cons (fun _ => ih _ _ _ _ z0 zs te' _ Z hZ hp) fun _ => rcs_nil) (fun _ z0 zx zs ze te' Z _ hZ hp => rcs_cons (fun _ => ih _ _ _ _ z0 zs te' _ Z hZ (by rw [← hp]; rfl)) fun _ => rcs_nil)
  cases on with
  | true => exact spec_chk T _ rfl _ _ _ _ (fun _ _ => run false rfl) _ _ _ _ _ lv9 (caller_for _ _ _) (fun _ => by rfl) (by decide) (K.rPlF0 _ X)
  | false => exact spec_chk T _ rfl _ _ _ _ (fun _ _ => run true rfl) _ _ _ _ _ lv9 (caller_for _ _ _) (fun _ => by rfl) (by decide) (K.rPlF1 _ X)
noncomputable def opOf (cl : Addr) (xs : List Value) (ta : Addr) (tt : List Value) (nt ts : Nat) (c : Cf) : OP :=
  { cl := cl, xs := xs, n := 0, tab := ta, tt := tt, nt := nt, st := 12, ts := ts, SS := fun m => iv c.seen (m 0), q := 12, CC := fun m => iv (c.L.reverse ++ c.R) (m 2), PN := c.L.length, SF := (c.st : Int), V := fun i m => pV i (m 3) }
theorem sPln (tab : Nat → Nat) (ht : ∀ i, tab i < 24) (cl : Addr) (xs : List Value) (ta : Addr) (tt : List Value) (nt ts : Nat) (htt : ∀ i, i < 9 → ∃ tx, tt[i]? = some (.int (tab i : Int) tx)) (a : Nat) (R' : List Nat) (hQ : ∀ k ∈ a :: R', k < 4) (hn : (a :: R').length ≤ 7) (hx : IsI (a :: R') xs) :
    Spec prog w top (rPln top w.params (opOf cl xs ta tt nt ts (runN' tab 12 (one0 a R')))) := by
  have hfine : (one0 a R').Fine := ⟨by show 0 < 3; decide, by intro k hk; simp [one0] at hk, hQ⟩
  obtain ⟨hf12, hl12⟩ := runN_bounds tab ht 12 (one0 a R') 7 hfine (by decide) (by simpa [one0] using hn)
  refine spec_chk T _ rfl _ _ _ _ (fun m tk => ?_) _ _ _ _ _ (by exact Nat.le_of_ble_eq_true rfl) (by rfl) (fun _ => by rfl) (by decide) (K.rPln _ (opOf cl xs ta tt nt ts (runN' tab 12 (one0 a R'))))
  have hlw : ∀ (ws : List Nat) (Tk : Nat → Nat), (iv ws Tk).length = ws.length := fun ws Tk => (isI_iv ws Tk).length
  refine rcs_cons (fun _ => sRgI _ _ _ _ _ _ _ _ (by show 12 < 1000; decide)) fun g => rcs_cons (fun _ => ?_) fun o => rcs_cons (fun _ => ?_) fun _ => rcs_cons (fun _ => ?_) fun _ => rcs_nil
  · exact pl_first T K tab ht _ _ _ cl tt nt htt 10 a R' _ _ 0 xs (by decide) ⟨hfine, hx, .nil, rfl, by simp only [List.length_cons] at hn; simp [one0]; omega⟩
  · exact sUpto _ _ _ _ _ _ _ _ _ (by show (iv ((runN' tab 12 (one0 a R')).L.reverse ++ (runN' tab 12 (one0 a R')).R) (o.m 2)).length < 1000; rw [hlw]; simp; omega)
  · exact sFrom _ _ _ _ _ _ _ _ _ (by show (iv ((runN' tab 12 (one0 a R')).L.reverse ++ (runN' tab 12 (one0 a R')).R) (o.m 2)).length < 1000; rw [hlw]; simp; omega)
end
end Mine
end
end
section
open PySem PySem.W PySem.W.X PyProof.Rows PySem.Calls
noncomputable section
namespace Mine
inductive IsZ : List Int → List Value → Prop
  | nil : IsZ [] []
  | cons {k : Int} {ws : List Int} {xs : List Value} (t : Nat) (h : IsZ ws xs) : IsZ (k :: ws) (.int k t :: xs)
theorem IsZ.length {ws : List Int} {xs : List Value} (h : IsZ ws xs) : xs.length = ws.length := by
  induction h with
  | nil => rfl
  | cons t h ih => simp [ih]
theorem IsZ.append {ws vs : List Int} {xs ys : List Value} (h : IsZ ws xs) (g : IsZ vs ys) : IsZ (ws ++ vs) (xs ++ ys) := by
  induction h with
  | nil => exact g
  | cons t h ih => exact .cons t ih
theorem IsZ.take {ws : List Int} {xs : List Value} (h : IsZ ws xs) (n : Nat) : IsZ (ws.take n) (xs.take n) := by
  induction h generalizing n with
  | nil => simp; exact .nil
  | cons t h ih => cases n with
    | zero => exact .nil
    | succ n => exact .cons t (ih n)
theorem IsZ.drop {ws : List Int} {xs : List Value} (h : IsZ ws xs) (n : Nat) : IsZ (ws.drop n) (xs.drop n) := by
  induction h generalizing n with
  | nil => simp; exact .nil
  | cons t h ih => cases n with
    | zero => exact .cons t h
    | succ n => exact ih n
inductive IsQ : List Nat → List Value → Prop
  | nil : IsQ [] []
  | cons {k : Nat} {ws : List Nat} {xs : List Value} (t : Nat) (h : IsQ ws xs) : IsQ (k :: ws) (.str ⟨⟨pq k⟩⟩ t :: xs)
noncomputable def qt : List Nat → (Nat → Nat) → List (Str × Nat)
  | [], _ => []
  | k :: ws, T => (⟨⟨pq k⟩⟩, T 0) :: qt ws fun i => T (i + 1)
noncomputable def qv (ws : List Nat) (T : Nat → Nat) : List Value := txts (qt ws T)
theorem IsQ.append {ws vs : List Nat} {xs ys : List Value} (h : IsQ ws xs) (g : IsQ vs ys) : IsQ (ws ++ vs) (xs ++ ys) := by
  induction h with
  | nil => exact g
  | cons t h ih => exact .cons t ih
theorem IsQ.one (k t : Nat) : IsQ [k] [.str ⟨⟨pq k⟩⟩ t] := .cons t .nil
theorem IsQ.length {ws : List Nat} {xs : List Value} (h : IsQ ws xs) : xs.length = ws.length := by
  induction h with
  | nil => rfl
  | cons t h ih => simp [ih]
theorem IsQ.of {ws : List Nat} {xs : List Value} (h : IsQ ws xs) : ∃ T, xs = qv ws T := by
  induction h with
  | nil => exact ⟨fun _ => 0, rfl⟩
  | cons t h ih =>
    obtain ⟨T, rfl⟩ := ih
    exact ⟨fun i => match i with | 0 => t | i + 1 => T i, rfl⟩
noncomputable def md (K : Nat) (v : Int) : Nat := (v % (K : Int)).toNat
theorem md_eq (K : Nat) (hK : 0 < K) (v : Int) : v % (K : Int) = ((md K v : Nat) : Int) := by
  unfold md
  have : 0 ≤ v % (K : Int) := Int.emod_nonneg _ (by omega)
  omega
noncomputable def kxN (P₀ : Params) (j : Nat) : MM → List DictEntry := fun m' => [eP P₀ (nmJ j) (m' 1 0) (.int ((m' 5 0 : Int) - (m' 5 1 : Int)) (m' 5 2))]
section
variable {prog : Program} {w : World} {top : KT} (T : Top top prog w) (K : Checks w.params prog top)
include T K
theorem sRep (k : Nat) (hk : k < 4) (t : Nat) : Spec prog w top (rRepr (pw k) ⟨⟨pq k⟩⟩ t) := by
  match k, hk with
  | 0, _ => exact spec_chk T _ rfl _ _ _ _ (fun _ _ => rcs_nil) _ _ _ _ _ (by exact Nat.le_of_ble_eq_true rfl) (by rfl) (fun _ => by rfl) (by decide) (K.rRep0 _ t)
  | 1, _ => exact spec_chk T _ rfl _ _ _ _ (fun _ _ => rcs_nil) _ _ _ _ _ (by exact Nat.le_of_ble_eq_true rfl) (by rfl) (fun _ => by rfl) (by decide) (K.rRep1 _ t)
  | 2, _ => exact spec_chk T _ rfl _ _ _ _ (fun _ _ => rcs_nil) _ _ _ _ _ (by exact Nat.le_of_ble_eq_true rfl) (by rfl) (fun _ => by rfl) (by decide) (K.rRep2 _ t)
  | 3, _ => exact spec_chk T _ rfl _ _ _ _ (fun _ _ => rcs_nil) _ _ _ _ _ (by exact Nat.le_of_ble_eq_true rfl) (by rfl) (fun _ => by rfl) (by decide) (K.rRep3 _ t)
theorem cj0_loop (X : CJ) : ∀ (rest : List Value) (ns : List Int) (pre ys : List Value) (done : List Nat) (k t2 : Nat) (i0 : Int) (t1 : Nat), IsZ ns rest → IsI done ys → (pre ++ rest).length < 24 → ys.length + rest.length < 900 →
    Spec prog w top (rCJ { X with xs := pre ++ rest, i := pre.length, ys := ys, k := k, D := iv (done ++ (ns.map (md 24))), kf := k + rest.length, KX := kxN w.params 0 } (X.loop top 0) 0 [eP w.params (nmJ 0) t2 (.int i0 t1)] 1)
  | _, _, pre, ys, done, k, t2, i0, t1, .nil, hd, hl, hy => by
    have hE := spec_chk T _ rfl _ _ _ _ (fun _ _ => rcs_cons (fun _ => sLiE T K X.it X.l pre X.n (by simpa using hl)) fun _ => rcs_nil) _ _ _ _ _ (by exact Nat.le_of_ble_eq_true rfl) (by rfl) (fun _ => by rfl) (by decide) (K.rL0E _ { X with xs := pre, i := pre.length, ys := ys, k := k } [eP w.params (nmJ 0) t2 (.int i0 t1)] 1)
    obtain ⟨Td, rfl⟩ := hd.of
    obtain ⟨a, b, rfl⟩ := int_split i0
    refine conv0 hE rfl (Nat.le_refl _) (.inl rfl) (by rw [List.append_nil]; rfl) fun x => ⟨⟨x.n, fun i => match i with | 1 => (fun j => match j with | 0 => t2 | _ => x.m 1 1) | 5 => (fun j => match j with | 0 => a | 1 => b | _ => t1) | _ => Td, x.o, x.p, x.b⟩, rfl, rfl, rfl, rfl, ?_⟩
    show x.o 0 :: lstO (pre ++ []) X.n :: dicO [eP w.params (nmJ 0) t2 (.int ((a : Int) - (b : Int)) t1)] (x.m 1 1) :: lstO (iv (done ++ ([].map (md 24))) Td) (k + 0) :: snds (X.pool 0) = x.o 0 :: lstO pre X.n :: dicO [eP w.params (nmJ 0) t2 (.int ((a : Int) - (b : Int)) t1)] (x.m 1 1) :: lstO (iv done Td) k :: snds (X.pool 0)
    rw [List.append_nil]
    simp only [List.map_nil]
    rw [List.append_nil]; rfl
  | _, _, pre, ys, done, k, t2, i0, t1, .cons (k := a) (ws := ns) (xs := rest) t h, hd, hl, hy => by
    have ea : a % 24 = ((md 24 a : Nat) : Int) := md_eq 24 (by decide) a
    simp at hl hy
    refine spec_chk T _ rfl _ _ _ _ (fun _ _ => rcs_cons (fun _ => sLiN _ _ _ _ _ _ _ _ _ (by simp)) fun z => rcs_cons (fun _ => sModI _ _ _ _ _ _ _ _ (by decide) (by rw [Int.fmod_eq_emod_of_nonneg _ (by decide)])) fun y => rcs_cons (fun _ => sApp _ _ _ _ _ _ _ (by show ys.length < 1000; omega)) fun _ => rcs_cons (fun _ => ?_) fun _ => rcs_nil) _ _ _ _ _ (by exact Nat.le_of_ble_eq_true rfl) (by rfl) (fun _ => by rfl) (by decide)
      (K.rL0T _ { X with xs := pre ++ Value.int a t :: rest, i := pre.length, ys := ys, k := k, v := a, tv := t, t2 := t2, w := .int i0 t1, wd := ⟨⟨[]⟩⟩, wt := 0, qd := ⟨⟨[]⟩⟩, D := iv (done ++ ((a :: ns).map (md 24))), kf := k + (Value.int a t :: rest).length, KX := kxN w.params 0 })
    have ih := cj0_loop X rest ns (pre ++ [Value.int a t]) (ys ++ [Value.int (a % 24) (y.n 2)]) (done ++ [md 24 a]) (k + 1) t2 a t h (by rw [ea]; exact hd.append (.one _ _)) (by simp; omega) (by simp; omega)
    rw [show pre ++ [Value.int a t] ++ rest = pre ++ Value.int a t :: rest by simp, show (pre ++ [Value.int a t]).length = pre.length + 1 by simp, show done ++ [md 24 a] ++ (ns.map (md 24)) = done ++ ((a :: ns).map (md 24)) by simp, show k + 1 + rest.length = k + (Value.int a t :: rest).length by simp only [List.length_cons]; omega] at ih
    exact ih
/-- the whole: some items -/
theorem cj0_some (X : CJ) (rest : List Value) (ns : List Int) (hne : rest ≠ []) (h : IsZ ns rest) (hl : rest.length < 24) :
    Spec prog w top (rL0B top w.params { X with xs := rest, i := 0, ys := [], k := 0, D := iv (ns.map (md 24)), kf := rest.length, KX := kxN w.params 0 }) := by
  have hs : Spec prog w top (rCJ { X with xs := rest, i := 0, ys := [], k := 0, D := iv (ns.map (md 24)), kf := rest.length, KX := kxN w.params 0 } (X.loop top 0) 0 [] 0) := by
    cases h with
    | nil => exact absurd rfl hne
    | @cons a ns rest t h =>
      have ys : List Value := []
      have ea : a % 24 = ((md 24 a : Nat) : Int) := md_eq 24 (by decide) a
      simp at hl
      have hys : ([] : List Value).length < 1000 := by decide
      refine spec_chk T _ rfl _ _ _ _ (fun _ _ => rcs_cons (fun _ => sLiN _ _ _ _ _ _ _ _ _ (by rfl)) fun z => rcs_cons (fun _ => sModI _ _ _ _ _ _ _ _ (by decide) (by rw [Int.fmod_eq_emod_of_nonneg _ (by decide)])) fun y => rcs_cons (fun _ => sApp _ _ _ _ _ _ _ (by exact hys)) fun _ => rcs_cons (fun _ => ?_) fun _ => rcs_nil) _ _ _ _ _ (by exact Nat.le_of_ble_eq_true rfl) (by rfl) (fun _ => by rfl) (by decide)
        (K.rL0F _ { X with xs := Value.int a t :: rest, i := 0, ys := [], k := 0, v := a, tv := t, wd := ⟨⟨[]⟩⟩, wt := 0, qd := ⟨⟨[]⟩⟩, D := iv ((a :: ns).map (md 24)), kf := (Value.int a t :: rest).length, KX := kxN w.params 0 })
      have ih := cj0_loop T K X rest ns [Value.int a t] ([] ++ [Value.int (a % 24) (y.n 2)]) [md 24 a] (0 + 1) (z.n 1) a t h (by rw [ea]; exact IsI.one _ _) (by simp; omega) (by simp; omega)
      rw [show [Value.int a t] ++ rest = Value.int a t :: rest from rfl, show [md 24 a] ++ (ns.map (md 24)) = ((a :: ns).map (md 24)) from rfl, show 0 + 1 + rest.length = (Value.int a t :: rest).length by simp only [List.length_cons]; omega] at ih
      exact ih
  have hR : ∀ m tk, RcsOk prog w top (rL0BR top w.params { X with xs := rest, i := 0, ys := [], k := 0, D := iv (ns.map (md 24)), kf := rest.length, KX := kxN w.params 0 } m tk) := fun _ _ => rcs_cons (fun _ => hs) fun _ => rcs_nil
  cases hq : w.params.followText "comprehension-iter-twice" with
  | false => exact spec_chk2F T hq _ _ _ _ hR _ _ _ _ _ (by exact Nat.le_of_ble_eq_true rfl) (by rfl) (fun _ => by rfl) (by decide) (K.rL0B2 _ _)
  | true => exact spec_chk2T T hq _ _ _ _ hR _ _ _ _ _ (by exact Nat.le_of_ble_eq_true rfl) (by rfl) (fun _ => by rfl) (by decide) (K.rL0B3 _)
theorem cj1_loop (X : CJ) : ∀ (rest : List Value) (ns : List Int) (pre ys : List Value) (done : List Nat) (k t2 : Nat) (i0 : Int) (t1 : Nat), IsZ ns rest → IsI done ys → (pre ++ rest).length < 24 → ys.length + rest.length < 900 →
    Spec prog w top (rCJ { X with xs := pre ++ rest, i := pre.length, ys := ys, k := k, D := iv (done ++ (ns.map (md 4))), kf := k + rest.length, KX := kxN w.params 1 } (X.loop top 1) 1 [eP w.params (nmJ 1) t2 (.int i0 t1)] 1)
  | _, _, pre, ys, done, k, t2, i0, t1, .nil, hd, hl, hy => by
    have hE := spec_chk T _ rfl _ _ _ _ (fun _ _ => rcs_cons (fun _ => sLiE T K X.it X.l pre X.n (by simpa using hl)) fun _ => rcs_nil) _ _ _ _ _ (by exact Nat.le_of_ble_eq_true rfl) (by rfl) (fun _ => by rfl) (by decide) (K.rL1E _ { X with xs := pre, i := pre.length, ys := ys, k := k } [eP w.params (nmJ 1) t2 (.int i0 t1)] 1)
    obtain ⟨Td, rfl⟩ := hd.of
    obtain ⟨a, b, rfl⟩ := int_split i0
    refine conv0 hE rfl (Nat.le_refl _) (.inl rfl) (by rw [List.append_nil]; rfl) fun x => ⟨⟨x.n, fun i => match i with | 1 => (fun j => match j with | 0 => t2 | _ => x.m 1 1) | 5 => (fun j => match j with | 0 => a | 1 => b | _ => t1) | _ => Td, x.o, x.p, x.b⟩, rfl, rfl, rfl, rfl, ?_⟩
    show x.o 0 :: lstO (pre ++ []) X.n :: dicO [eP w.params (nmJ 1) t2 (.int ((a : Int) - (b : Int)) t1)] (x.m 1 1) :: lstO (iv (done ++ ([].map (md 4))) Td) (k + 0) :: snds (X.pool 1) = x.o 0 :: lstO pre X.n :: dicO [eP w.params (nmJ 1) t2 (.int ((a : Int) - (b : Int)) t1)] (x.m 1 1) :: lstO (iv done Td) k :: snds (X.pool 1)
    rw [List.append_nil]
    simp only [List.map_nil]
    rw [List.append_nil]; rfl
  | _, _, pre, ys, done, k, t2, i0, t1, .cons (k := a) (ws := ns) (xs := rest) t h, hd, hl, hy => by
    have ea : a % 4 = ((md 4 a : Nat) : Int) := md_eq 4 (by decide) a
    simp at hl hy
    refine spec_chk T _ rfl _ _ _ _ (fun _ _ => rcs_cons (fun _ => sLiN _ _ _ _ _ _ _ _ _ (by simp)) fun z => rcs_cons (fun _ => sModI _ _ _ _ _ _ _ _ (by decide) (by rw [Int.fmod_eq_emod_of_nonneg _ (by decide)])) fun y => rcs_cons (fun _ => sApp _ _ _ _ _ _ _ (by show ys.length < 1000; omega)) fun _ => rcs_cons (fun _ => ?_) fun _ => rcs_nil) _ _ _ _ _ (by exact Nat.le_of_ble_eq_true rfl) (by rfl) (fun _ => by rfl) (by decide)
      (K.rL1T _ { X with xs := pre ++ Value.int a t :: rest, i := pre.length, ys := ys, k := k, v := a, tv := t, t2 := t2, w := .int i0 t1, wd := ⟨⟨[]⟩⟩, wt := 0, qd := ⟨⟨[]⟩⟩, D := iv (done ++ ((a :: ns).map (md 4))), kf := k + (Value.int a t :: rest).length, KX := kxN w.params 1 })
    have ih := cj1_loop X rest ns (pre ++ [Value.int a t]) (ys ++ [Value.int (a % 4) (y.n 2)]) (done ++ [md 4 a]) (k + 1) t2 a t h (by rw [ea]; exact hd.append (.one _ _)) (by simp; omega) (by simp; omega)
    rw [show pre ++ [Value.int a t] ++ rest = pre ++ Value.int a t :: rest by simp, show (pre ++ [Value.int a t]).length = pre.length + 1 by simp, show done ++ [md 4 a] ++ (ns.map (md 4)) = done ++ ((a :: ns).map (md 4)) by simp, show k + 1 + rest.length = k + (Value.int a t :: rest).length by simp only [List.length_cons]; omega] at ih
    exact ih
/-- the whole: some items -/
theorem cj1_some (X : CJ) (rest : List Value) (ns : List Int) (hne : rest ≠ []) (h : IsZ ns rest) (hl : rest.length < 24) :
    Spec prog w top (rL1B top w.params { X with xs := rest, i := 0, ys := [], k := 0, D := iv (ns.map (md 4)), kf := rest.length, KX := kxN w.params 1 }) := by
  have hs : Spec prog w top (rCJ { X with xs := rest, i := 0, ys := [], k := 0, D := iv (ns.map (md 4)), kf := rest.length, KX := kxN w.params 1 } (X.loop top 1) 1 [] 0) := by
    cases h with
    | nil => exact absurd rfl hne
    | @cons a ns rest t h =>
      have ys : List Value := []
      have ea : a % 4 = ((md 4 a : Nat) : Int) := md_eq 4 (by decide) a
      simp at hl
      have hys : ([] : List Value).length < 1000 := by decide
      refine spec_chk T _ rfl _ _ _ _ (fun _ _ => rcs_cons (fun _ => sLiN _ _ _ _ _ _ _ _ _ (by rfl)) fun z => rcs_cons (fun _ => sModI _ _ _ _ _ _ _ _ (by decide) (by rw [Int.fmod_eq_emod_of_nonneg _ (by decide)])) fun y => rcs_cons (fun _ => sApp _ _ _ _ _ _ _ (by exact hys)) fun _ => rcs_cons (fun _ => ?_) fun _ => rcs_nil) _ _ _ _ _ (by exact Nat.le_of_ble_eq_true rfl) (by rfl) (fun _ => by rfl) (by decide)
        (K.rL1F _ { X with xs := Value.int a t :: rest, i := 0, ys := [], k := 0, v := a, tv := t, wd := ⟨⟨[]⟩⟩, wt := 0, qd := ⟨⟨[]⟩⟩, D := iv ((a :: ns).map (md 4)), kf := (Value.int a t :: rest).length, KX := kxN w.params 1 })
      have ih := cj1_loop T K X rest ns [Value.int a t] ([] ++ [Value.int (a % 4) (y.n 2)]) [md 4 a] (0 + 1) (z.n 1) a t h (by rw [ea]; exact IsI.one _ _) (by simp; omega) (by simp; omega)
      rw [show [Value.int a t] ++ rest = Value.int a t :: rest from rfl, show [md 4 a] ++ (ns.map (md 4)) = ((a :: ns).map (md 4)) from rfl, show 0 + 1 + rest.length = (Value.int a t :: rest).length by simp only [List.length_cons]; omega] at ih
      exact ih
  have hR : ∀ m tk, RcsOk prog w top (rL1BR top w.params { X with xs := rest, i := 0, ys := [], k := 0, D := iv (ns.map (md 4)), kf := rest.length, KX := kxN w.params 1 } m tk) := fun _ _ => rcs_cons (fun _ => hs) fun _ => rcs_nil
  cases hq : w.params.followText "comprehension-iter-twice" with
  | false => exact spec_chk2F T hq _ _ _ _ hR _ _ _ _ _ (by exact Nat.le_of_ble_eq_true rfl) (by rfl) (fun _ => by rfl) (by decide) (K.rL1B2 _ _)
  | true => exact spec_chk2T T hq _ _ _ _ hR _ _ _ _ _ (by exact Nat.le_of_ble_eq_true rfl) (by rfl) (fun _ => by rfl) (by decide) (K.rL1B3 _)
/-- the whole: nothing -/
theorem cj1_none (X : CJ) : Spec prog w top (rL1B top w.params { X with xs := [], i := 0, ys := [], k := 0, D := iv [], kf := 0, KX := fun _ => [] }) := by
  have hs : Spec prog w top (rCJ { X with xs := [], i := 0, ys := [], k := 0, D := iv [], kf := 0, KX := fun _ => [] } (X.loop top 1) 1 [] 0) := by
    have hE := spec_chk T _ rfl _ _ _ _ (fun _ _ => rcs_cons (fun _ => sLiE T K X.it X.l [] X.n (by decide)) fun _ => rcs_nil) _ _ _ _ _ (by exact Nat.le_of_ble_eq_true rfl) (by rfl) (fun _ => by rfl) (by decide) (K.rL1E _ { X with xs := [], i := 0, ys := [], k := 0 } [] 0)
    exact conv0 hE rfl (Nat.le_refl _) (.inl rfl) rfl fun x => ⟨⟨x.n, fun _ _ => x.m 1 1, x.o, x.p, x.b⟩, rfl, rfl, rfl, rfl, rfl⟩
  have hR : ∀ m tk, RcsOk prog w top (rL1BR top w.params { X with xs := [], i := 0, ys := [], k := 0, D := iv [], kf := 0, KX := fun _ => [] } m tk) := fun _ _ => rcs_cons (fun _ => hs) fun _ => rcs_nil
  cases hq : w.params.followText "comprehension-iter-twice" with
  | false => exact spec_chk2F T hq _ _ _ _ hR _ _ _ _ _ (by exact Nat.le_of_ble_eq_true rfl) (by rfl) (fun _ => by rfl) (by decide) (K.rL1B2 _ _)
  | true => exact spec_chk2T T hq _ _ _ _ hR _ _ _ _ _ (by exact Nat.le_of_ble_eq_true rfl) (by rfl) (fun _ => by rfl) (by decide) (K.rL1B3 _)
theorem cj2_loop (X : CJ) : ∀ (rest : List Value) (ns : List Nat) (pre ys : List Value) (done : List Nat) (k t2 : Nat) (i0 : Int) (t1 : Nat), IsI ns rest → (∀ k ∈ ns, k < 4) → IsQ done ys → (pre ++ rest).length < 24 → ys.length + rest.length < 900 →
    Spec prog w top (rCJ { X with xs := pre ++ rest, i := pre.length, ys := ys, k := k, D := qv (done ++ ns), kf := k + rest.length, KX := kxN w.params 2 } (X.loop top 2) 2 [eP w.params (nmJ 2) t2 (.int i0 t1)] 1)
  | _, _, pre, ys, done, k, t2, i0, t1, .nil, h4, hd, hl, hy => by
    have hE := spec_chk T _ rfl _ _ _ _ (fun _ _ => rcs_cons (fun _ => sLiE T K X.it X.l pre X.n (by simpa using hl)) fun _ => rcs_nil) _ _ _ _ _ (by exact Nat.le_of_ble_eq_true rfl) (by rfl) (fun _ => by rfl) (by decide) (K.rL2E _ { X with xs := pre, i := pre.length, ys := ys, k := k } [eP w.params (nmJ 2) t2 (.int i0 t1)] 1)
    obtain ⟨Td, rfl⟩ := hd.of
    obtain ⟨a, b, rfl⟩ := int_split i0
    refine conv0 hE rfl (Nat.le_refl _) (.inl rfl) (by rw [List.append_nil]; rfl) fun x => ⟨⟨x.n, fun i => match i with | 1 => (fun j => match j with | 0 => t2 | _ => x.m 1 1) | 5 => (fun j => match j with | 0 => a | 1 => b | _ => t1) | _ => Td, x.o, x.p, x.b⟩, rfl, rfl, rfl, rfl, ?_⟩
    show x.o 0 :: lstO (pre ++ []) X.n :: dicO [eP w.params (nmJ 2) t2 (.int ((a : Int) - (b : Int)) t1)] (x.m 1 1) :: lstO (qv (done ++ []) Td) (k + 0) :: snds (X.pool 2) = x.o 0 :: lstO pre X.n :: dicO [eP w.params (nmJ 2) t2 (.int ((a : Int) - (b : Int)) t1)] (x.m 1 1) :: lstO (qv done Td) k :: snds (X.pool 2)
    rw [List.append_nil]
    skip
    rw [List.append_nil]; rfl
  | _, _, pre, ys, done, k, t2, i0, t1, .cons (k := a) (ws := ns) (xs := rest) t h, h4, hd, hl, hy => by
    have ha : a < 4 := h4 a (.head _)
    simp at hl hy
    refine spec_chk T _ rfl _ _ _ _ (fun _ _ => rcs_cons (fun _ => sLiN _ _ _ _ _ _ _ _ _ (by simp)) fun z => rcs_cons (fun _ => sItem _ _ _ _ _ _ _ _ _ (by show (0 : Int) ≤ (a : Int); omega) (by show (a : Int) < 1000; omega) (by show (wl X.t0)[(a : Int).toNat]? = _; exact wl_at _ _ ha)) fun _ => rcs_cons (fun _ => sRep T K a ha _) fun y => rcs_cons (fun _ => sApp _ _ _ _ _ _ _ (by show ys.length < 1000; omega)) fun _ => rcs_cons (fun _ => ?_) fun _ => rcs_nil) _ _ _ _ _ (by exact Nat.le_of_ble_eq_true rfl) (by rfl) (fun _ => by rfl) (by decide)
      (K.rL2T _ { X with xs := pre ++ Value.int (a : Int) t :: rest, i := pre.length, ys := ys, k := k, v := (a : Int), tv := t, t2 := t2, w := .int i0 t1, wd := pw a, wt := (X.t0 + a), qd := ⟨⟨pq a⟩⟩, D := qv (done ++ (a :: ns)), kf := k + (Value.int (a : Int) t :: rest).length, KX := kxN w.params 2 })
    have ih := cj2_loop X rest ns (pre ++ [Value.int (a : Int) t]) (ys ++ [Value.str ⟨⟨pq a⟩⟩ (y.n 2)]) (done ++ [a]) (k + 1) t2 (a : Int) t h (fun b hb => h4 b (.tail _ hb)) (hd.append (.one _ _)) (by simp; omega) (by simp; omega)
    rw [show pre ++ [Value.int (a : Int) t] ++ rest = pre ++ Value.int (a : Int) t :: rest by simp, show (pre ++ [Value.int (a : Int) t]).length = pre.length + 1 by simp, show done ++ [a] ++ ns = done ++ (a :: ns) by simp, show k + 1 + rest.length = k + (Value.int (a : Int) t :: rest).length by simp only [List.length_cons]; omega] at ih
    exact ih
/-- the whole: some items -/
theorem cj2_some (X : CJ) (rest : List Value) (ns : List Nat) (hne : rest ≠ []) (h : IsI ns rest) (h4 : ∀ k ∈ ns, k < 4) (hl : rest.length < 24) :
    Spec prog w top (rL2B top w.params { X with xs := rest, i := 0, ys := [], k := 0, D := qv ns, kf := rest.length, KX := kxN w.params 2 }) := by
  have hs : Spec prog w top (rCJ { X with xs := rest, i := 0, ys := [], k := 0, D := qv ns, kf := rest.length, KX := kxN w.params 2 } (X.loop top 2) 2 [] 0) := by
    cases h with
    | nil => exact absurd rfl hne
    | @cons a ns rest t h =>
      have ys : List Value := []
      have ha : a < 4 := h4 a (.head _)
      simp at hl
      have hys : ([] : List Value).length < 1000 := by decide
      refine spec_chk T _ rfl _ _ _ _ (fun _ _ => rcs_cons (fun _ => sLiN _ _ _ _ _ _ _ _ _ (by rfl)) fun z => rcs_cons (fun _ => sItem _ _ _ _ _ _ _ _ _ (by show (0 : Int) ≤ (a : Int); omega) (by show (a : Int) < 1000; omega) (by show (wl X.t0)[(a : Int).toNat]? = _; exact wl_at _ _ ha)) fun _ => rcs_cons (fun _ => sRep T K a ha _) fun y => rcs_cons (fun _ => sApp _ _ _ _ _ _ _ (by exact hys)) fun _ => rcs_cons (fun _ => ?_) fun _ => rcs_nil) _ _ _ _ _ (by exact Nat.le_of_ble_eq_true rfl) (by rfl) (fun _ => by rfl) (by decide)
        (K.rL2F _ { X with xs := Value.int (a : Int) t :: rest, i := 0, ys := [], k := 0, v := (a : Int), tv := t, wd := pw a, wt := (X.t0 + a), qd := ⟨⟨pq a⟩⟩, D := qv (a :: ns), kf := (Value.int (a : Int) t :: rest).length, KX := kxN w.params 2 })
      have ih := cj2_loop T K X rest ns [Value.int (a : Int) t] ([] ++ [Value.str ⟨⟨pq a⟩⟩ (y.n 2)]) [a] (0 + 1) (z.n 1) (a : Int) t h (fun b hb => h4 b (.tail _ hb)) (IsQ.one _ _) (by simp; omega) (by simp; omega)
      rw [show [Value.int (a : Int) t] ++ rest = Value.int (a : Int) t :: rest from rfl, show [a] ++ ns = (a :: ns) from rfl, show 0 + 1 + rest.length = (Value.int (a : Int) t :: rest).length by simp only [List.length_cons]; omega] at ih
      exact ih
  have hR : ∀ m tk, RcsOk prog w top (rL2BR top w.params { X with xs := rest, i := 0, ys := [], k := 0, D := qv ns, kf := rest.length, KX := kxN w.params 2 } m tk) := fun _ _ => rcs_cons (fun _ => hs) fun _ => rcs_nil
  cases hq : w.params.followText "comprehension-iter-twice" with
  | false => exact spec_chk2F T hq _ _ _ _ hR _ _ _ _ _ (by exact Nat.le_of_ble_eq_true rfl) (by rfl) (fun _ => by rfl) (by decide) (K.rL2B2 _ _)
  | true => exact spec_chk2T T hq _ _ _ _ hR _ _ _ _ _ (by exact Nat.le_of_ble_eq_true rfl) (by rfl) (fun _ => by rfl) (by decide) (K.rL2B3 _)
theorem cj3_loop (X : CJ) : ∀ (rest : List Value) (ns : List Nat) (pre ys : List Value) (done : List Nat) (k t2 : Nat) (i0 : Int) (t1 : Nat), IsI ns rest → (∀ k ∈ ns, k < 4) → IsW done ys → (pre ++ rest).length < 24 → ys.length + rest.length < 900 →
    Spec prog w top (rCJ { X with xs := pre ++ rest, i := pre.length, ys := ys, k := k, D := wv (done ++ ns), kf := k + rest.length, KX := kxN w.params 3 } (X.loop top 3) 3 [eP w.params (nmJ 3) t2 (.int i0 t1)] 1)
  | _, _, pre, ys, done, k, t2, i0, t1, .nil, h4, hd, hl, hy => by
    have hE := spec_chk T _ rfl _ _ _ _ (fun _ _ => rcs_cons (fun _ => sLiE T K X.it X.l pre X.n (by simpa using hl)) fun _ => rcs_nil) _ _ _ _ _ (by exact Nat.le_of_ble_eq_true rfl) (by rfl) (fun _ => by rfl) (by decide) (K.rL3E _ { X with xs := pre, i := pre.length, ys := ys, k := k } [eP w.params (nmJ 3) t2 (.int i0 t1)] 1)
    obtain ⟨Td, rfl⟩ := hd.of
    obtain ⟨a, b, rfl⟩ := int_split i0
    refine conv0 hE rfl (Nat.le_refl _) (.inl rfl) (by rw [List.append_nil]; rfl) fun x => ⟨⟨x.n, fun i => match i with | 1 => (fun j => match j with | 0 => t2 | _ => x.m 1 1) | 5 => (fun j => match j with | 0 => a | 1 => b | _ => t1) | _ => Td, x.o, x.p, x.b⟩, rfl, rfl, rfl, rfl, ?_⟩
    show x.o 0 :: lstO (pre ++ []) X.n :: dicO [eP w.params (nmJ 3) t2 (.int ((a : Int) - (b : Int)) t1)] (x.m 1 1) :: lstO (wv (done ++ []) Td) (k + 0) :: snds (X.pool 3) = x.o 0 :: lstO pre X.n :: dicO [eP w.params (nmJ 3) t2 (.int ((a : Int) - (b : Int)) t1)] (x.m 1 1) :: lstO (wv done Td) k :: snds (X.pool 3)
    rw [List.append_nil]
    skip
    rw [List.append_nil]; rfl
  | _, _, pre, ys, done, k, t2, i0, t1, .cons (k := a) (ws := ns) (xs := rest) t h, h4, hd, hl, hy => by
    have ha : a < 4 := h4 a (.head _)
    simp at hl hy
    refine spec_chk T _ rfl _ _ _ _ (fun _ _ => rcs_cons (fun _ => sLiN _ _ _ _ _ _ _ _ _ (by simp)) fun z => rcs_cons (fun _ => sItem _ _ _ _ _ _ _ _ _ (by show (0 : Int) ≤ (a : Int); omega) (by show (a : Int) < 1000; omega) (by show (wl X.t0)[(a : Int).toNat]? = _; exact wl_at _ _ ha)) fun _ => rcs_cons (fun _ => sApp _ _ _ _ _ _ _ (by show ys.length < 1000; omega)) fun _ => rcs_cons (fun _ => ?_) fun _ => rcs_nil) _ _ _ _ _ (by exact Nat.le_of_ble_eq_true rfl) (by rfl) (fun _ => by rfl) (by decide)
      (K.rL3T _ { X with xs := pre ++ Value.int (a : Int) t :: rest, i := pre.length, ys := ys, k := k, v := (a : Int), tv := t, t2 := t2, w := .int i0 t1, wd := pw a, wt := (X.t0 + a), qd := ⟨⟨pq a⟩⟩, D := wv (done ++ (a :: ns)), kf := k + (Value.int (a : Int) t :: rest).length, KX := kxN w.params 3 })
    have ih := cj3_loop X rest ns (pre ++ [Value.int (a : Int) t]) (ys ++ [Value.str (pw a) (X.t0 + a)]) (done ++ [a]) (k + 1) t2 (a : Int) t h (fun b hb => h4 b (.tail _ hb)) (hd.append (.one _ _)) (by simp; omega) (by simp; omega)
    rw [show pre ++ [Value.int (a : Int) t] ++ rest = pre ++ Value.int (a : Int) t :: rest by simp, show (pre ++ [Value.int (a : Int) t]).length = pre.length + 1 by simp, show done ++ [a] ++ ns = done ++ (a :: ns) by simp, show k + 1 + rest.length = k + (Value.int (a : Int) t :: rest).length by simp only [List.length_cons]; omega] at ih
    exact ih
/-- the whole: some items -/
theorem cj3_some (X : CJ) (rest : List Value) (ns : List Nat) (hne : rest ≠ []) (h : IsI ns rest) (h4 : ∀ k ∈ ns, k < 4) (hl : rest.length < 24) :
    Spec prog w top (rL3B top w.params { X with xs := rest, i := 0, ys := [], k := 0, D := wv ns, kf := rest.length, KX := kxN w.params 3 }) := by
  have hs : Spec prog w top (rCJ { X with xs := rest, i := 0, ys := [], k := 0, D := wv ns, kf := rest.length, KX := kxN w.params 3 } (X.loop top 3) 3 [] 0) := by
    cases h with
    | nil => exact absurd rfl hne
    | @cons a ns rest t h =>
      have ys : List Value := []
      have ha : a < 4 := h4 a (.head _)
      simp at hl
      have hys : ([] : List Value).length < 1000 := by decide
      refine spec_chk T _ rfl _ _ _ _ (fun _ _ => rcs_cons (fun _ => sLiN _ _ _ _ _ _ _ _ _ (by rfl)) fun z => rcs_cons (fun _ => sItem _ _ _ _ _ _ _ _ _ (by show (0 : Int) ≤ (a : Int); omega) (by show (a : Int) < 1000; omega) (by show (wl X.t0)[(a : Int).toNat]? = _; exact wl_at _ _ ha)) fun _ => rcs_cons (fun _ => sApp _ _ _ _ _ _ _ (by exact hys)) fun _ => rcs_cons (fun _ => ?_) fun _ => rcs_nil) _ _ _ _ _ (by exact Nat.le_of_ble_eq_true rfl) (by rfl) (fun _ => by rfl) (by decide)
        (K.rL3F _ { X with xs := Value.int (a : Int) t :: rest, i := 0, ys := [], k := 0, v := (a : Int), tv := t, wd := pw a, wt := (X.t0 + a), qd := ⟨⟨pq a⟩⟩, D := wv (a :: ns), kf := (Value.int (a : Int) t :: rest).length, KX := kxN w.params 3 })
      have ih := cj3_loop T K X rest ns [Value.int (a : Int) t] ([] ++ [Value.str (pw a) (X.t0 + a)]) [a] (0 + 1) (z.n 1) (a : Int) t h (fun b hb => h4 b (.tail _ hb)) (IsW.one _ _) (by simp; omega) (by simp; omega)
      rw [show [Value.int (a : Int) t] ++ rest = Value.int (a : Int) t :: rest from rfl, show [a] ++ ns = (a :: ns) from rfl, show 0 + 1 + rest.length = (Value.int (a : Int) t :: rest).length by simp only [List.length_cons]; omega] at ih
      exact ih
  have hR : ∀ m tk, RcsOk prog w top (rL3BR top w.params { X with xs := rest, i := 0, ys := [], k := 0, D := wv ns, kf := rest.length, KX := kxN w.params 3 } m tk) := fun _ _ => rcs_cons (fun _ => hs) fun _ => rcs_nil
  cases hq : w.params.followText "comprehension-iter-twice" with
  | false => exact spec_chk2F T hq _ _ _ _ hR _ _ _ _ _ (by exact Nat.le_of_ble_eq_true rfl) (by rfl) (fun _ => by rfl) (by decide) (K.rL3B2 _ _)
  | true => exact spec_chk2T T hq _ _ _ _ hR _ _ _ _ _ (by exact Nat.le_of_ble_eq_true rfl) (by rfl) (fun _ => by rfl) (by decide) (K.rL3B3 _)
theorem cj4_loop (X : CJ) : ∀ (rest : List Value) (ns : List Nat) (pre ys : List Value) (done : List Nat) (k t2 : Nat) (i0 : Int) (t1 : Nat), IsI ns rest → (∀ k ∈ ns, k < 4) → IsW done ys → (pre ++ rest).length < 24 → ys.length + rest.length < 900 →
    Spec prog w top (rCJ { X with xs := pre ++ rest, i := pre.length, ys := ys, k := k, D := wv (done ++ ns), kf := k + rest.length, KX := kxN w.params 4 } (X.loop top 4) 4 [eP w.params (nmJ 4) t2 (.int i0 t1)] 1)
  | _, _, pre, ys, done, k, t2, i0, t1, .nil, h4, hd, hl, hy => by
    have hE := spec_chk T _ rfl _ _ _ _ (fun _ _ => rcs_cons (fun _ => sLiE T K X.it X.l pre X.n (by simpa using hl)) fun _ => rcs_nil) _ _ _ _ _ (by exact Nat.le_of_ble_eq_true rfl) (by rfl) (fun _ => by rfl) (by decide) (K.rL4E _ { X with xs := pre, i := pre.length, ys := ys, k := k } [eP w.params (nmJ 4) t2 (.int i0 t1)] 1)
    obtain ⟨Td, rfl⟩ := hd.of
    obtain ⟨a, b, rfl⟩ := int_split i0
    refine conv0 hE rfl (Nat.le_refl _) (.inl rfl) (by rw [List.append_nil]; rfl) fun x => ⟨⟨x.n, fun i => match i with | 1 => (fun j => match j with | 0 => t2 | _ => x.m 1 1) | 5 => (fun j => match j with | 0 => a | 1 => b | _ => t1) | _ => Td, x.o, x.p, x.b⟩, rfl, rfl, rfl, rfl, ?_⟩
    show x.o 0 :: lstO (pre ++ []) X.n :: dicO [eP w.params (nmJ 4) t2 (.int ((a : Int) - (b : Int)) t1)] (x.m 1 1) :: lstO (wv (done ++ []) Td) (k + 0) :: snds (X.pool 4) = x.o 0 :: lstO pre X.n :: dicO [eP w.params (nmJ 4) t2 (.int ((a : Int) - (b : Int)) t1)] (x.m 1 1) :: lstO (wv done Td) k :: snds (X.pool 4)
    rw [List.append_nil]
    skip
    rw [List.append_nil]; rfl
  | _, _, pre, ys, done, k, t2, i0, t1, .cons (k := a) (ws := ns) (xs := rest) t h, h4, hd, hl, hy => by
    have ha : a < 4 := h4 a (.head _)
    simp at hl hy
    refine spec_chk T _ rfl _ _ _ _ (fun _ _ => rcs_cons (fun _ => sLiN _ _ _ _ _ _ _ _ _ (by simp)) fun z => rcs_cons (fun _ => sItem _ _ _ _ _ _ _ _ _ (by show (0 : Int) ≤ (a : Int); omega) (by show (a : Int) < 1000; omega) (by show (wl X.t0)[(a : Int).toNat]? = _; exact wl_at _ _ ha)) fun _ => rcs_cons (fun _ => sApp _ _ _ _ _ _ _ (by show ys.length < 1000; omega)) fun _ => rcs_cons (fun _ => ?_) fun _ => rcs_nil) _ _ _ _ _ (by exact Nat.le_of_ble_eq_true rfl) (by rfl) (fun _ => by rfl) (by decide)
      (K.rL4T _ { X with xs := pre ++ Value.int (a : Int) t :: rest, i := pre.length, ys := ys, k := k, v := (a : Int), tv := t, t2 := t2, w := .int i0 t1, wd := pw a, wt := (X.t0 + a), qd := ⟨⟨pq a⟩⟩, D := wv (done ++ (a :: ns)), kf := k + (Value.int (a : Int) t :: rest).length, KX := kxN w.params 4 })
    have ih := cj4_loop X rest ns (pre ++ [Value.int (a : Int) t]) (ys ++ [Value.str (pw a) (X.t0 + a)]) (done ++ [a]) (k + 1) t2 (a : Int) t h (fun b hb => h4 b (.tail _ hb)) (hd.append (.one _ _)) (by simp; omega) (by simp; omega)
    rw [show pre ++ [Value.int (a : Int) t] ++ rest = pre ++ Value.int (a : Int) t :: rest by simp, show (pre ++ [Value.int (a : Int) t]).length = pre.length + 1 by simp, show done ++ [a] ++ ns = done ++ (a :: ns) by simp, show k + 1 + rest.length = k + (Value.int (a : Int) t :: rest).length by simp only [List.length_cons]; omega] at ih
    exact ih
/-- the whole: some items -/
theorem cj4_some (X : CJ) (rest : List Value) (ns : List Nat) (hne : rest ≠ []) (h : IsI ns rest) (h4 : ∀ k ∈ ns, k < 4) (hl : rest.length < 24) :
    Spec prog w top (rL4B top w.params { X with xs := rest, i := 0, ys := [], k := 0, D := wv ns, kf := rest.length, KX := kxN w.params 4 }) := by
  have hs : Spec prog w top (rCJ { X with xs := rest, i := 0, ys := [], k := 0, D := wv ns, kf := rest.length, KX := kxN w.params 4 } (X.loop top 4) 4 [] 0) := by
    cases h with
    | nil => exact absurd rfl hne
    | @cons a ns rest t h =>
      have ys : List Value := []
      have ha : a < 4 := h4 a (.head _)
      simp at hl
      have hys : ([] : List Value).length < 1000 := by decide
      refine spec_chk T _ rfl _ _ _ _ (fun _ _ => rcs_cons (fun _ => sLiN _ _ _ _ _ _ _ _ _ (by rfl)) fun z => rcs_cons (fun _ => sItem _ _ _ _ _ _ _ _ _ (by show (0 : Int) ≤ (a : Int); omega) (by show (a : Int) < 1000; omega) (by show (wl X.t0)[(a : Int).toNat]? = _; exact wl_at _ _ ha)) fun _ => rcs_cons (fun _ => sApp _ _ _ _ _ _ _ (by exact hys)) fun _ => rcs_cons (fun _ => ?_) fun _ => rcs_nil) _ _ _ _ _ (by exact Nat.le_of_ble_eq_true rfl) (by rfl) (fun _ => by rfl) (by decide)
        (K.rL4F _ { X with xs := Value.int (a : Int) t :: rest, i := 0, ys := [], k := 0, v := (a : Int), tv := t, wd := pw a, wt := (X.t0 + a), qd := ⟨⟨pq a⟩⟩, D := wv (a :: ns), kf := (Value.int (a : Int) t :: rest).length, KX := kxN w.params 4 })
      have ih := cj4_loop T K X rest ns [Value.int (a : Int) t] ([] ++ [Value.str (pw a) (X.t0 + a)]) [a] (0 + 1) (z.n 1) (a : Int) t h (fun b hb => h4 b (.tail _ hb)) (IsW.one _ _) (by simp; omega) (by simp; omega)
      rw [show [Value.int (a : Int) t] ++ rest = Value.int (a : Int) t :: rest from rfl, show [a] ++ ns = (a :: ns) from rfl, show 0 + 1 + rest.length = (Value.int (a : Int) t :: rest).length by simp only [List.length_cons]; omega] at ih
      exact ih
  have hR : ∀ m tk, RcsOk prog w top (rL4BR top w.params { X with xs := rest, i := 0, ys := [], k := 0, D := wv ns, kf := rest.length, KX := kxN w.params 4 } m tk) := fun _ _ => rcs_cons (fun _ => hs) fun _ => rcs_nil
  cases hq : w.params.followText "comprehension-iter-twice" with
  | false => exact spec_chk2F T hq _ _ _ _ hR _ _ _ _ _ (by exact Nat.le_of_ble_eq_true rfl) (by rfl) (fun _ => by rfl) (by decide) (K.rL4B2 _ _)
  | true => exact spec_chk2T T hq _ _ _ _ hR _ _ _ _ _ (by exact Nat.le_of_ble_eq_true rfl) (by rfl) (fun _ => by rfl) (by decide) (K.rL4B3 _)
/-- the whole: nothing -/
theorem cj4_none (X : CJ) : Spec prog w top (rL4B top w.params { X with xs := [], i := 0, ys := [], k := 0, D := wv [], kf := 0, KX := fun _ => [] }) := by
  have hs : Spec prog w top (rCJ { X with xs := [], i := 0, ys := [], k := 0, D := wv [], kf := 0, KX := fun _ => [] } (X.loop top 4) 4 [] 0) := by
    have hE := spec_chk T _ rfl _ _ _ _ (fun _ _ => rcs_cons (fun _ => sLiE T K X.it X.l [] X.n (by decide)) fun _ => rcs_nil) _ _ _ _ _ (by exact Nat.le_of_ble_eq_true rfl) (by rfl) (fun _ => by rfl) (by decide) (K.rL4E _ { X with xs := [], i := 0, ys := [], k := 0 } [] 0)
    exact conv0 hE rfl (Nat.le_refl _) (.inl rfl) rfl fun x => ⟨⟨x.n, fun _ _ => x.m 1 1, x.o, x.p, x.b⟩, rfl, rfl, rfl, rfl, rfl⟩
  have hR : ∀ m tk, RcsOk prog w top (rL4BR top w.params { X with xs := [], i := 0, ys := [], k := 0, D := wv [], kf := 0, KX := fun _ => [] } m tk) := fun _ _ => rcs_cons (fun _ => hs) fun _ => rcs_nil
  cases hq : w.params.followText "comprehension-iter-twice" with
  | false => exact spec_chk2F T hq _ _ _ _ hR _ _ _ _ _ (by exact Nat.le_of_ble_eq_true rfl) (by rfl) (fun _ => by rfl) (by decide) (K.rL4B2 _ _)
  | true => exact spec_chk2T T hq _ _ _ _ hR _ _ _ _ _ (by exact Nat.le_of_ble_eq_true rfl) (by rfl) (fun _ => by rfl) (by decide) (K.rL4B3 _)
theorem cj5_loop (X : CJ) : ∀ (rest : List Value) (ns : List Nat) (pre ys : List Value) (done : List Nat) (k t2 : Nat) (i0 : Int) (t1 : Nat), IsI ns rest → (∀ k ∈ ns, k < 4) → IsW done ys → (pre ++ rest).length < 24 → ys.length + rest.length < 900 →
    Spec prog w top (rCJ { X with xs := pre ++ rest, i := pre.length, ys := ys, k := k, D := wv (done ++ ns), kf := k + rest.length, KX := kxN w.params 5 } (X.loop top 5) 5 [eP w.params (nmJ 5) t2 (.int i0 t1)] 1)
  | _, _, pre, ys, done, k, t2, i0, t1, .nil, h4, hd, hl, hy => by
    have hE := spec_chk T _ rfl _ _ _ _ (fun _ _ => rcs_cons (fun _ => sLiE T K X.it X.l pre X.n (by simpa using hl)) fun _ => rcs_nil) _ _ _ _ _ (by exact Nat.le_of_ble_eq_true rfl) (by rfl) (fun _ => by rfl) (by decide) (K.rL5E _ { X with xs := pre, i := pre.length, ys := ys, k := k } [eP w.params (nmJ 5) t2 (.int i0 t1)] 1)
    obtain ⟨Td, rfl⟩ := hd.of
    obtain ⟨a, b, rfl⟩ := int_split i0
    refine conv0 hE rfl (Nat.le_refl _) (.inl rfl) (by rw [List.append_nil]; rfl) fun x => ⟨⟨x.n, fun i => match i with | 1 => (fun j => match j with | 0 => t2 | _ => x.m 1 1) | 5 => (fun j => match j with | 0 => a | 1 => b | _ => t1) | _ => Td, x.o, x.p, x.b⟩, rfl, rfl, rfl, rfl, ?_⟩
    show x.o 0 :: lstO (pre ++ []) X.n :: dicO [eP w.params (nmJ 5) t2 (.int ((a : Int) - (b : Int)) t1)] (x.m 1 1) :: lstO (wv (done ++ []) Td) (k + 0) :: snds (X.pool 5) = x.o 0 :: lstO pre X.n :: dicO [eP w.params (nmJ 5) t2 (.int ((a : Int) - (b : Int)) t1)] (x.m 1 1) :: lstO (wv done Td) k :: snds (X.pool 5)
    rw [List.append_nil]
    skip
    rw [List.append_nil]; rfl
  | _, _, pre, ys, done, k, t2, i0, t1, .cons (k := a) (ws := ns) (xs := rest) t h, h4, hd, hl, hy => by
    have ha : a < 4 := h4 a (.head _)
    simp at hl hy
    refine spec_chk T _ rfl _ _ _ _ (fun _ _ => rcs_cons (fun _ => sLiN _ _ _ _ _ _ _ _ _ (by simp)) fun z => rcs_cons (fun _ => sItem _ _ _ _ _ _ _ _ _ (by show (0 : Int) ≤ (a : Int); omega) (by show (a : Int) < 1000; omega) (by show (wl X.t0)[(a : Int).toNat]? = _; exact wl_at _ _ ha)) fun _ => rcs_cons (fun _ => sApp _ _ _ _ _ _ _ (by show ys.length < 1000; omega)) fun _ => rcs_cons (fun _ => ?_) fun _ => rcs_nil) _ _ _ _ _ (by exact Nat.le_of_ble_eq_true rfl) (by rfl) (fun _ => by rfl) (by decide)
      (K.rL5T _ { X with xs := pre ++ Value.int (a : Int) t :: rest, i := pre.length, ys := ys, k := k, v := (a : Int), tv := t, t2 := t2, w := .int i0 t1, wd := pw a, wt := (X.t0 + a), qd := ⟨⟨pq a⟩⟩, D := wv (done ++ (a :: ns)), kf := k + (Value.int (a : Int) t :: rest).length, KX := kxN w.params 5 })
    have ih := cj5_loop X rest ns (pre ++ [Value.int (a : Int) t]) (ys ++ [Value.str (pw a) (X.t0 + a)]) (done ++ [a]) (k + 1) t2 (a : Int) t h (fun b hb => h4 b (.tail _ hb)) (hd.append (.one _ _)) (by simp; omega) (by simp; omega)
    rw [show pre ++ [Value.int (a : Int) t] ++ rest = pre ++ Value.int (a : Int) t :: rest by simp, show (pre ++ [Value.int (a : Int) t]).length = pre.length + 1 by simp, show done ++ [a] ++ ns = done ++ (a :: ns) by simp, show k + 1 + rest.length = k + (Value.int (a : Int) t :: rest).length by simp only [List.length_cons]; omega] at ih
    exact ih
/-- the whole: some items -/
theorem cj5_some (X : CJ) (rest : List Value) (ns : List Nat) (hne : rest ≠ []) (h : IsI ns rest) (h4 : ∀ k ∈ ns, k < 4) (hl : rest.length < 24) :
    Spec prog w top (rL5B top w.params { X with xs := rest, i := 0, ys := [], k := 0, D := wv ns, kf := rest.length, KX := kxN w.params 5 }) := by
  have hs : Spec prog w top (rCJ { X with xs := rest, i := 0, ys := [], k := 0, D := wv ns, kf := rest.length, KX := kxN w.params 5 } (X.loop top 5) 5 [] 0) := by
    cases h with
    | nil => exact absurd rfl hne
    | @cons a ns rest t h =>
      have ys : List Value := []
      have ha : a < 4 := h4 a (.head _)
      simp at hl
      have hys : ([] : List Value).length < 1000 := by decide
      refine spec_chk T _ rfl _ _ _ _ (fun _ _ => rcs_cons (fun _ => sLiN _ _ _ _ _ _ _ _ _ (by rfl)) fun z => rcs_cons (fun _ => sItem _ _ _ _ _ _ _ _ _ (by show (0 : Int) ≤ (a : Int); omega) (by show (a : Int) < 1000; omega) (by show (wl X.t0)[(a : Int).toNat]? = _; exact wl_at _ _ ha)) fun _ => rcs_cons (fun _ => sApp _ _ _ _ _ _ _ (by exact hys)) fun _ => rcs_cons (fun _ => ?_) fun _ => rcs_nil) _ _ _ _ _ (by exact Nat.le_of_ble_eq_true rfl) (by rfl) (fun _ => by rfl) (by decide)
        (K.rL5F _ { X with xs := Value.int (a : Int) t :: rest, i := 0, ys := [], k := 0, v := (a : Int), tv := t, wd := pw a, wt := (X.t0 + a), qd := ⟨⟨pq a⟩⟩, D := wv (a :: ns), kf := (Value.int (a : Int) t :: rest).length, KX := kxN w.params 5 })
      have ih := cj5_loop T K X rest ns [Value.int (a : Int) t] ([] ++ [Value.str (pw a) (X.t0 + a)]) [a] (0 + 1) (z.n 1) (a : Int) t h (fun b hb => h4 b (.tail _ hb)) (IsW.one _ _) (by simp; omega) (by simp; omega)
      rw [show [Value.int (a : Int) t] ++ rest = Value.int (a : Int) t :: rest from rfl, show [a] ++ ns = (a :: ns) from rfl, show 0 + 1 + rest.length = (Value.int (a : Int) t :: rest).length by simp only [List.length_cons]; omega] at ih
      exact ih
  have hR : ∀ m tk, RcsOk prog w top (rL5BR top w.params { X with xs := rest, i := 0, ys := [], k := 0, D := wv ns, kf := rest.length, KX := kxN w.params 5 } m tk) := fun _ _ => rcs_cons (fun _ => hs) fun _ => rcs_nil
  cases hq : w.params.followText "comprehension-iter-twice" with
  | false => exact spec_chk2F T hq _ _ _ _ hR _ _ _ _ _ (by exact Nat.le_of_ble_eq_true rfl) (by rfl) (fun _ => by rfl) (by decide) (K.rL5B2 _ _)
  | true => exact spec_chk2T T hq _ _ _ _ hR _ _ _ _ _ (by exact Nat.le_of_ble_eq_true rfl) (by rfl) (fun _ => by rfl) (by decide) (K.rL5B3 _)
/-- the whole: nothing -/
theorem cj5_none (X : CJ) : Spec prog w top (rL5B top w.params { X with xs := [], i := 0, ys := [], k := 0, D := wv [], kf := 0, KX := fun _ => [] }) := by
  have hs : Spec prog w top (rCJ { X with xs := [], i := 0, ys := [], k := 0, D := wv [], kf := 0, KX := fun _ => [] } (X.loop top 5) 5 [] 0) := by
    have hE := spec_chk T _ rfl _ _ _ _ (fun _ _ => rcs_cons (fun _ => sLiE T K X.it X.l [] X.n (by decide)) fun _ => rcs_nil) _ _ _ _ _ (by exact Nat.le_of_ble_eq_true rfl) (by rfl) (fun _ => by rfl) (by decide) (K.rL5E _ { X with xs := [], i := 0, ys := [], k := 0 } [] 0)
    exact conv0 hE rfl (Nat.le_refl _) (.inl rfl) rfl fun x => ⟨⟨x.n, fun _ _ => x.m 1 1, x.o, x.p, x.b⟩, rfl, rfl, rfl, rfl, rfl⟩
  have hR : ∀ m tk, RcsOk prog w top (rL5BR top w.params { X with xs := [], i := 0, ys := [], k := 0, D := wv [], kf := 0, KX := fun _ => [] } m tk) := fun _ _ => rcs_cons (fun _ => hs) fun _ => rcs_nil
  cases hq : w.params.followText "comprehension-iter-twice" with
  | false => exact spec_chk2F T hq _ _ _ _ hR _ _ _ _ _ (by exact Nat.le_of_ble_eq_true rfl) (by rfl) (fun _ => by rfl) (by decide) (K.rL5B2 _ _)
  | true => exact spec_chk2T T hq _ _ _ _ hR _ _ _ _ _ (by exact Nat.le_of_ble_eq_true rfl) (by rfl) (fun _ => by rfl) (by decide) (K.rL5B3 _)
end
end Mine
end
end
section
open PySem PySem.W PySem.W.X PyProof.Rows PySem.Calls PySem.MeetsSeq PySem.SeqAt
noncomputable section
namespace Mine
/-! the text -/
noncomputable def txl : List Nat → List Nat
  | [] => []
  | [k] => pq k
  | k :: k' :: r => pq k ++ 32 :: txl (k' :: r)
noncomputable def bT (ks : List Nat) : Str := ⟨⟨txl ks⟩⟩
theorem txl_txt : ∀ (ks : List Nat) (pre : List Nat), (∀ k ∈ ks, k < 4) → Txt ⟨⟨pre ++ txl ks⟩⟩ pre.length ks
  | [], pre, _ => by show (pre ++ []).length = pre.length; simp
  | [k], pre, h => by
    refine ⟨h k (by simp), fun i c hi => ?_, by show (pre ++ pq k).length = _; simp⟩
    show (⟨pre ++ pq k⟩ : Array Nat)[pre.length + i]? = some c
    have : (pre ++ pq k)[pre.length + i]? = some c := by
      rw [List.getElem?_append_right (by omega), show pre.length + i - pre.length = i by omega]; exact hi
    simpa using this
  | k :: k' :: r, pre, h => by
    refine ⟨h k (by simp), fun i c hi => ?_, ?_⟩
    · show (⟨pre ++ (pq k ++ 32 :: txl (k' :: r))⟩ : Array Nat)[pre.length + i]? = some c
      have hl := (List.getElem?_eq_some_iff.mp hi).1
      have : (pre ++ (pq k ++ 32 :: txl (k' :: r)))[pre.length + i]? = some c := by
        rw [List.getElem?_append_right (by omega), show pre.length + i - pre.length = i by omega, show pq k ++ 32 :: txl (k' :: r) = (pq k ++ [32]) ++ txl (k' :: r) by simp, List.getElem?_append_left hl]
        exact hi
      simpa using this
    · have := txl_txt (k' :: r) (pre ++ pq k ++ [32]) fun a ha => h a (.tail _ ha)
      have e : (pre ++ pq k ++ [32]).length = pre.length + (pq k).length + 1 := by simp only [List.length_append, List.length_cons, List.length_nil]
      rw [e] at this
      rw [show pre ++ txl (k :: k' :: r) = pre ++ pq k ++ [32] ++ txl (k' :: r) by simp [txl]]
      exact this
theorem pq_max (k : Nat) : (pq k).length ≤ 9 := by
  unfold pq
  split <;> decide
theorem txl_len : ∀ ks : List Nat, (txl ks).length ≤ 10 * ks.length
  | [] => by simp [txl]
  | [k] => by have := pq_max k; simp [txl]; omega
  | k :: k' :: r => by
    have := pq_max k
    have := txl_len (k' :: r)
    simp only [txl, List.length_append, List.length_cons] at this ⊢
    omega
theorem join_T : ∀ ks : List Nat, Str.join ⟨⟨[32]⟩⟩ (ks.map fun k => (⟨⟨pq k⟩⟩ : Str)) = bT ks
  | [] => rfl
  | [k] => rfl
  | k :: k' :: r => by
    have ih := join_T (k' :: r)
    show (⟨⟨pq k⟩⟩ : Str) ++ ⟨⟨[32]⟩⟩ ++ Str.join ⟨⟨[32]⟩⟩ ((k' :: r).map fun k => (⟨⟨pq k⟩⟩ : Str)) = _
    rw [ih]
    show (⟨(⟨pq k⟩ : Array Nat) ++ ⟨[32]⟩ ++ ⟨txl (k' :: r)⟩⟩ : Str) = ⟨⟨txl (k :: k' :: r)⟩⟩
    simp [txl]
theorem qt_map : ∀ (ks : List Nat) (T : Nat → Nat), (qt ks T).map (·.1) = ks.map fun k => (⟨⟨pq k⟩⟩ : Str)
  | [], _ => rfl
  | k :: ks, T => by show _ :: (qt ks _).map (·.1) = _; rw [qt_map ks]; rfl
theorem qt_len : ∀ (ks : List Nat) (T : Nat → Nat), (qt ks T).length = ks.length
  | [], _ => rfl
  | k :: ks, T => by simp [qt, qt_len ks]
section
variable (prog : Program) (w : World) (top : KT)
theorem sJoin (l : Addr) (ks : List Nat) (Tk : Nat → Nat) (n t : Nat) (h2 : 2 ≤ ks.length) (h9 : ks.length ≤ 30) : Spec prog w top (rJoin l (qv ks Tk) n t (bT ks)) := by
  refine spec_toks _ (fun _ => rfl) (fun _ => rfl) 1 (fun tk => .ok (.ret (.str (bT ks) tk))) (fun _ => rfl) fun A s _ hp R h => ?_
  have ho : s.heap.get? l = some (lstO (qv ks Tk) n) := hp _ (.head _)
  refine codeAny_slotM F.slot_str_join (typeIs_str s _ t) F.entry_str_join (F.args_str_join_2 _ _) ?_
  have hsz : ∀ (L : List Str) (a : Nat), (∀ x ∈ L, x.length ≤ 9) → L.foldl (· + ·.length + 1) a ≤ a + 10 * L.length := by
    intro L
    induction L with
    | nil => intro a _; simp
    | cons x L ih =>
      intro a hx
      have := ih (a + x.length + 1) fun y hy => hx y (.tail _ hy)
      have := hx x (.head _)
      simp only [List.foldl_cons, List.length_cons]
      omega
  refine meets_str_join_list ⟨⟨[32]⟩⟩ t l (qt ks Tk) ?_ prog w A R s ⟨⟨_, ho, rfl, n, rfl⟩, ?_⟩
  · have h1 := hsz ((qt ks Tk).map (·.1)) 0 (by
      rw [qt_map]
      intro x hx
      obtain ⟨k, _, rfl⟩ := List.mem_map.mp hx
      exact pq_max k)
    rw [List.length_map, qt_len] at h1
    have e : ((qt ks Tk).map (·.1)).toArray.foldl (· + ·.length + (⟨⟨[32]⟩⟩ : Str).length) 0 = ((qt ks Tk).map (·.1)).foldl (· + ·.length + 1) 0 := by rw [List.foldl_toArray]; rfl
    rw [e]
    exact decide_eq_false (by have : 300 ≤ sizeLine := by decide +kernel
                              omega)
  · have hm : joinMade ⟨⟨[32]⟩⟩ (qt ks Tk) = .str (Builtin.Str.glued ⟨⟨[32]⟩⟩ ((qt ks Tk).map (·.1))) := by
      match ks, h2 with
      | k :: k' :: r, _ => rfl
    rw [hm]
    have eb : Builtin.Str.glued ⟨⟨[32]⟩⟩ ((qt ks Tk).map (·.1)) = bT ks := by rw [qt_map, ← join_T]; exact StrLaws.glued_eq_join _ _
    rw [eb]
    refine ⟨?_, h⟩
    show (txl ks).length ≤ sizeLine
    have := txl_len ks
    have : 300 ≤ sizeLine := by decide +kernel
    omega
end
/-! two answers alike -/
theorem isW_eq {ws : List Nat} {xs ys : List Value} (h : IsW ws xs) (g : IsW ws ys) {A : Around} {s : Shared} : ∀ (j : Nat) (h1 : j < xs.length) (h2 : j < ys.length), EqAt A s xs[j] ys[j] true := by
  induction h generalizing ys with
  | nil => intro j h1; simp at h1
  | @cons k ws xs t h ih =>
    cases g with
    | cons u g =>
      intro j h1 h2
      cases j with
      | zero =>
        have := EqAt.str_str (A := A) (s := s) (pw k) t (pw k) u
        simpa using this
      | succ j => exact ih g j (by simpa using h1) (by simpa using h2)
theorem rc_lists {A : Around} {s : Shared} {a b : Addr} {xs ys : List Value} {n m : Nat} {ws : List Nat} (ha : s.heap.get? a = some (lstO xs n)) (hb : s.heap.get? b = some (lstO ys m)) (hx : IsW ws xs) (hy : IsW ws ys) (hu : A.units < cLine) (hne : a ≠ b) : EqAt A s (.ref a) (.ref b) true := by
  have := RcAt.lists (A := A) (s := s) (l := a) (b := b) (items := ⟨xs⟩) (items2 := ⟨ys⟩) (e := fun _ => true) ⟨_, ha, rfl, n, rfl⟩ ⟨_, hb, rfl, m, rfl⟩ (by show xs.length = ys.length; rw [hx.length, hy.length]) hu (fun j h1 h2 => isW_eq hx hy j h1 h2)
  refine .of_refs hne ?_
  rw [show (List.range (⟨xs⟩ : Array Value).size).all (fun _ => true) = true from List.all_eq_true.mpr fun _ _ => rfl] at this
  exact this
theorem cmp_two {M : Model} {prog : Program} {w : World} {A : Around} {E : Value → Shared → Prop} {s : Shared} {Q : Value → Shared → Prop} {h d a1 a2 a3 b1 b2 b3 : Addr} {v : Int} {t u : Nat} {x1 x2 x3 y1 y2 y3 : List Value} {n1 n2 n3 m1 m2 m3 : Nat} {w1 w2 w3 : List Nat}
    (hh : s.heap.get? h = some (tupO [.ref a1, .int v t, .ref a2, .ref a3])) (hd : s.heap.get? d = some (tupO [.ref b1, .int v u, .ref b2, .ref b3]))
    (h1 : s.heap.get? a1 = some (lstO x1 n1)) (h2 : s.heap.get? a2 = some (lstO x2 n2)) (h3 : s.heap.get? a3 = some (lstO x3 n3)) (g1 : s.heap.get? b1 = some (lstO y1 m1)) (g2 : s.heap.get? b2 = some (lstO y2 m2)) (g3 : s.heap.get? b3 = some (lstO y3 m3))
    (i1 : IsW w1 x1) (i2 : IsW w2 x2) (i3 : IsW w3 x3) (j1 : IsW w1 y1) (j2 : IsW w2 y2) (j3 : IsW w3 y3) (e1 : a1 ≠ b1) (e2 : a2 ≠ b2) (e3 : a3 ≠ b3) (hu : A.units + 2 < cLine) (hq : Q (.bool true) s) :
    wpAny (model prog w) A (compareOp .Eq (.ref h) (.ref d)) Q E s := by
  refine eq_tupleAt (items := ⟨[.ref a1, .int v t, .ref a2, .ref a3]⟩) (items2 := ⟨[.ref b1, .int v u, .ref b2, .ref b3]⟩) (e := fun _ => true) ⟨_, hh, rfl, 0, rfl⟩ ⟨_, hd, rfl, 0, rfl⟩ (by omega) (fun j k1 k2 => ?_) (by
    show Q (.bool ((List.range 4).all (fun _ => true) && (4 == 4))) s
    rw [show (List.range 4).all (fun _ => true) = true from List.all_eq_true.mpr fun _ _ => rfl]
    exact hq)
  have hu1 : A.in1.units < cLine := by show A.units + 1 < cLine; omega
  match j, k1 with
  | 0, _ => exact rc_lists h1 g1 i1 j1 hu1 e1
  | 1, _ => have := EqAt.int_int (A := A.in1) (s := s) v t v u; simpa using this
  | 2, _ => exact rc_lists h2 g2 i2 j2 hu1 e2
  | 3, _ => exact rc_lists h3 g3 i3 j3 hu1 e3
end Mine
end
end
section
open PySem PySem.W PySem.W.X PyProof.Rows PySem.Calls PySem.MeetsSeq PySem.SeqAt
noncomputable section
namespace Mine
noncomputable def defN : List Int := [9, 6, 19, 7, 16, 13, 14, 3, 21]
noncomputable def tblN (ns : List Int) : List Nat := ((ns ++ defN).take 9).map (md 24)
noncomputable def binN (ns : List Int) : List Nat := ((ns.drop 9).take 4).map (md 4)
noncomputable def tabN (ns : List Int) : Nat → Nat := fun i => (tblN ns).getD i 0
noncomputable def celN (ns : List Int) : List Nat := 1 :: 0 :: 2 :: binN ns
noncomputable def c2N (ns : List Int) : C2 := run2 (tabN ns) 12 (two0 1 (0 :: 2 :: binN ns))
noncomputable def finN (ns : List Int) : Cf := (c2N ns).to
theorem finN_eq (ns : List Int) : finN ns = runN' (tabN ns) 12 (one0 1 (0 :: 2 :: binN ns)) := run2_to _ _ _
noncomputable def olOf (l : Addr) (vs : List Value) (n : Nat) (ns : List Int) : OL :=
  { l := l, xs := vs, n := n, T9 := fun tk => (vs ++ D9 tk).take 9, T13 := (vs.drop 9).take 4, TA := iv (tblN ns), ka := 9, TB := iv (binN ns), kb := (binN ns).length, TC := qv (celN ns), kc := (celN ns).length,
    VX := fun _ m' => .int ((m' 5 0 : Int) - (m' 5 1 : Int)) (m' 5 2), b := bT (celN ns), SP := fun m => iv (finN ns).seen (m 0), qp := 12, CC := fun m => iv ((finN ns).L.reverse ++ (finN ns).R) (m 2), PN := (finN ns).L.length, SF := ((finN ns).st : Int),
    V := fun i m => pV i (m 3), D3 := wv (finN ns).seen, k3 := 12, D4 := wv (finN ns).L.reverse, k4 := (finN ns).L.length, D5 := wv (finN ns).R, k5 := (finN ns).R.length,
    S2 := wv (finN ns).seen, q2 := 12, RV := fun m => lexD (bT (celN ns)) (c2N ns).P (c2N ns).Q (fun i => m (2 * i + 4)), LE := fun m => lexD ⟨⟨[]⟩⟩ (c2N ns).L [] (fun i => m (2 * i + 5)), V2 := fun i m => dV i (m 3),
    DL := wv ((c2N ns).L ++ []), DR := wv ((c2N ns).P ++ (c2N ns).Q), nl := 2 + ((c2N ns).L ++ []).length, nr := 2 + ((c2N ns).P ++ (c2N ns).Q).length,
    X1 := fun z => wv (celN ns) (z 0), pf := pfN (0 + (pq 1).length) (0 :: 2 :: binN ns), kf := (celN ns).length + 1, S1 := fun m => wv (finN ns).seen (m 0), q1 := 12, PB := fun m => wt ((finN ns).R ++ 4 :: (finN ns).L.reverse) (m 2),
    kB := ver (tabN ns) 12 (one0 1 (0 :: 2 :: binN ns)) ((celN ns).length + 1), V1 := fun i m => oV i (m 3), j := (finN ns).R.length }
/-! facts -/
theorem D9_Z (t : Nat) : IsZ defN (D9 t) := .cons _ (.cons _ (.cons _ (.cons _ (.cons _ (.cons _ (.cons _ (.cons _ (.cons _ .nil))))))))
theorem md_lt (K : Nat) (hK : 0 < K) (v : Int) : md K v < K := by
  unfold md
  have h1 : 0 ≤ v % (K : Int) := Int.emod_nonneg _ (by omega)
  have h2 : v % (K : Int) < K := Int.emod_lt_of_pos _ (by omega)
  omega
theorem tblN_lt (ns : List Int) : ∀ k ∈ tblN ns, k < 24 := by
  intro k hk
  obtain ⟨v, _, rfl⟩ := List.mem_map.mp hk
  exact md_lt 24 (by decide) v
theorem tabN_lt (ns : List Int) (i : Nat) : tabN ns i < 24 := by
  unfold tabN
  rw [List.getD_eq_getElem?_getD]
  cases h : (tblN ns)[i]? with
  | none => simp
  | some k => exact tblN_lt ns k (List.mem_of_getElem? h)
theorem tblN_len (ns : List Int) : (tblN ns).length = 9 := by
  unfold tblN
  rw [List.length_map, List.length_take, List.length_append]
  have : defN.length = 9 := rfl
  omega
theorem binN_lt (ns : List Int) : ∀ k ∈ binN ns, k < 4 := by
  intro k hk
  obtain ⟨v, _, rfl⟩ := List.mem_map.mp hk
  exact md_lt 4 (by decide) v
theorem binN_len (ns : List Int) : (binN ns).length ≤ 4 := by
  unfold binN
  rw [List.length_map, List.length_take]; omega
theorem celN_lt (ns : List Int) : ∀ k ∈ celN ns, k < 4 := by
  intro k hk
  simp only [celN, List.mem_cons] at hk
  rcases hk with rfl | rfl | rfl | hk
  · decide
  · decide
  · decide
  · exact binN_lt ns k hk
theorem celN_len (ns : List Int) : (celN ns).length ≤ 7 := by have := binN_len ns; simp only [celN, List.length_cons]; omega
theorem celN_txt (ns : List Int) : Txt (bT (celN ns)) 0 (celN ns) := txl_txt (celN ns) [] (celN_lt ns)
theorem celN_size (ns : List Int) : (bT (celN ns)).cps.size < 1000 := by
  show (txl (celN ns)).length < 1000
  have := txl_len (celN ns)
  have := celN_len ns
  omega
theorem tab_at (ns : List Int) (Tk : Nat → Nat) : ∀ i, i < 9 → ∃ tx, (iv (tblN ns) Tk)[i]? = some (.int (tabN ns i : Int) tx) := by
  intro i hi
  have h := isI_iv (tblN ns) Tk
  have hl := tblN_len ns
  refine h.at ?_
  unfold tabN
  rw [List.getD_eq_getElem?_getD, List.getElem?_eq_getElem (by omega)]; rfl
theorem C3_I (t : Nat) : IsI [1, 0, 2] (C3 t) := .cons (k := 1) t (.cons (k := 0) (t + 1) (.cons (k := 2) (t + 2) .nil))
theorem cel_I (t : Nat) (ns : List Int) (Tk : Nat → Nat) : IsI (celN ns) (C3 t ++ iv (binN ns) Tk) := (C3_I t).append (isI_iv _ _)
theorem fin_fine (ns : List Int) : (finN ns).Fine ∧ (finN ns).R.length + (finN ns).L.length ≤ 19 := by
  have hfine : (one0 1 (0 :: 2 :: binN ns)).Fine := ⟨by show 0 < 3; decide, by intro k hk; simp [one0] at hk, celN_lt ns⟩
  rw [finN_eq]
  exact runN_bounds (tabN ns) (tabN_lt ns) 12 _ 7 hfine (by decide) (by have := celN_len ns; simp only [celN, List.length_cons] at this; simp [one0]; omega)
theorem seen_run (tab : Nat → Nat) (ht : ∀ i, tab i < 24) : ∀ (n : Nat) (c : Cf), c.Fine → (∀ k ∈ c.seen, k < 4) → (∀ k ∈ (runN' tab n c).seen, k < 4) ∧ (runN' tab n c).seen.length = c.seen.length + n
  | 0, c, _, hs => ⟨hs, rfl⟩
  | n + 1, c, h, hs => by
    have e : (stp tab c).seen = c.seen ++ [c.k] := by rw [stp_eq]; split <;> rfl
    obtain ⟨h1, h2⟩ := seen_run tab ht n (stp tab c) (stp_fine ht h) (by
      rw [e]
      intro k hk
      rcases List.mem_append.mp hk with hk | hk
      · exact hs k hk
      · rw [List.mem_singleton.mp hk]; exact Cf.k_lt h)
    refine ⟨h1, ?_⟩
    show (runN' tab n (stp tab c)).seen.length = _
    rw [h2, e, List.length_append]
    show c.seen.length + 1 + n = _
    omega
theorem fin_seen (ns : List Int) : (∀ k ∈ (finN ns).seen, k < 4) ∧ (finN ns).seen.length = 12 := by
  have hfine : (one0 1 (0 :: 2 :: binN ns)).Fine := ⟨by show 0 < 3; decide, by intro k hk; simp [one0] at hk, celN_lt ns⟩
  rw [finN_eq]
  exact seen_run (tabN ns) (tabN_lt ns) 12 _ hfine (by intro k hk; simp [one0] at hk)
/-- not both sides of the tape are empty -/
theorem run_some (tab : Nat → Nat) : ∀ (n : Nat) (c : Cf), ¬ (c.L.isEmpty = true ∧ c.R.isEmpty = true) → ¬ ((runN' tab n c).L.isEmpty = true ∧ (runN' tab n c).R.isEmpty = true)
  | 0, c, h => h
  | n + 1, c, _ => run_some tab n (stp tab c) (by
    rw [stp_eq]
    split
    · intro h; exact absurd h.1 (by simp)
    · intro h; exact absurd h.2 (by simp))
theorem fin_some (ns : List Int) : ¬ ((finN ns).L.isEmpty = true ∧ (finN ns).R.isEmpty = true) := by
  rw [finN_eq]
  exact run_some _ 12 _ (by intro h; exact absurd h.2 (by simp [one0]))
theorem slice_mid (xs : List Value) : slicePick ⟨xs⟩ (some 9) (some 13) none = ⟨(xs.drop 9).take 4⟩ := by
  have h1 : clipAt (⟨xs⟩ : Array Value).size 9 = min 9 xs.length := clipAt_nat xs.length 9
  have h2 : clipAt (⟨xs⟩ : Array Value).size 13 = min 13 xs.length := clipAt_nat xs.length 13
  rw [slicePick_plain]
  simp only [Option.elim, h1, h2]
  show (⟨(xs.drop (min 9 xs.length)).take (min 13 xs.length - min 9 xs.length)⟩ : Array Value) = ⟨(xs.drop 9).take 4⟩
  congr 1
  rcases Nat.le_total 9 xs.length with h | h
  · rw [Nat.min_eq_left h]
    rcases Nat.le_total 13 xs.length with g | g
    · rw [Nat.min_eq_left g]
    · rw [Nat.min_eq_right g, List.take_of_length_le (by simp), List.take_of_length_le (by simp; omega)]
  · rw [Nat.min_eq_right h, List.drop_of_length_le (by simp), List.drop_of_length_le h]; simp
end Mine
end
end
section
open PySem PySem.W PySem.W.X PyProof.Rows PySem.Calls PySem.MeetsSeq PySem.SeqAt
noncomputable section
namespace Mine
theorem iv_app : ∀ (ws vs : List Nat) (T : Nat → Nat), iv (ws ++ vs) T = iv ws T ++ iv vs (fun i => T (i + ws.length))
  | [], vs, T => rfl
  | k :: ws, vs, T => by
    show Value.int (k : Int) (T 0) :: iv (ws ++ vs) (fun i => T (i + 1)) = Value.int (k : Int) (T 0) :: (iv ws (fun i => T (i + 1)) ++ iv vs (fun i => T (i + (k :: ws).length)))
    rw [iv_app ws vs]
    rfl
section
variable {prog : Program} {w : World} {top : KT} (T : Top top prog w) (K : Checks w.params prog top) (FX : Facts top)
include T K FX
theorem rT1_rcs (l : Addr) (vs : List Value) (n : Nat) (ns : List Int) (hv : IsZ ns vs) (hl : vs.length ≤ 63) (L cl t0 m tk : Nat) (hkm : (fEnv top 828 "law.<locals>." L [(.ofString "pool", cl)]).scope.kind ≠ .module) (e1 e4 e5 : Bool) (h1 : (binN ns).isEmpty = e1) (h4 : (finN ns).L.isEmpty = e4) (h5 : (finN ns).R.isEmpty = e5) :
    RcsOk prog w top (rT1S top w.params (olOf l vs n ns) L cl t0 m tk e1 e4 e5) := by
  obtain ⟨hff, hfl⟩ := fin_fine ns
  have hlI : ∀ (ws : List Nat) (Tk : Nat → Nat), (iv ws Tk).length = ws.length := fun ws Tk => (isI_iv ws Tk).length
  have h9 : (((vs ++ D9 tk).take 9)).length = 9 := by
    have : (D9 tk).length = 9 := rfl
    rw [List.length_take, List.length_append]; omega
  have hZ9 : IsZ ((ns ++ defN).take 9) ((vs ++ D9 tk).take 9) := (hv.append (D9_Z tk)).take 9
  have hZ13 : IsZ ((ns.drop 9).take 4) ((vs.drop 9).take 4) := (hv.drop 9).take 4
  have hb13 : ((vs.drop 9).take 4).length = (binN ns).length := by rw [hZ13.length]; unfold binN; rw [List.length_map]
  have hb4 := binN_len ns
  have hc7 := celN_len ns
  refine rcs_cons (fun _ => sAdd _ _ _ _ _ _ _ _ _ (by show vs.length < 400; omega) (by show 9 < 400; decide)) fun a => rcs_cons (fun _ => sUpto prog w top _ _ (vs ++ D9 tk) 0 9 _ (by rw [List.length_append]; show vs.length + 9 < 1000; omega)) fun b => rcs_cons (fun _ => ?_) fun u0 => rcs_cons (fun _ => sSlice _ _ _ _ _ _ _ _ _ _ _ (some 9) (some 13) none (.int _ _) (.int _ _) .none (by simp) (by show vs.length < 1000; omega) (slice_mid vs)) fun d =>
    rcs_cons (fun _ => ?_) fun u1 => rcs_cons (fun _ => sAdd _ _ _ _ _ _ _ _ _ (by show 3 < 400; decide) (by show (iv (binN ns) _).length < 400; rw [hlI]; omega)) fun e => rcs_cons (fun _ => ?_) fun u2 => rcs_cons (fun _ => sJoin _ _ _ _ (celN ns) _ _ _ (by simp [celN]) (by omega)) fun f => rcs_cons (fun _ => ?_) fun g =>
    rcs_cons (fun _ => ?_) fun u3 => rcs_cons (fun _ => ?_) fun u4 => rcs_cons (fun _ => ?_) fun u5 => rcs_cons (fun _ => ?_) fun h => rcs_nil
  · have := cj0_some T K ((olOf l vs n ns).cj w.params L cl false (b.n 0) (b.n 2) ((vs ++ D9 tk).take 9) 0 (b.n 0 + 2) (b.n 0 + 1) 0 0 (iv (tblN ns)) 9 0) _ _ (by intro h; rw [h] at h9; cases h9) hZ9 (by omega)
    rw [h9] at this
    exact this
  · cases e1 with
    | true =>
      have hbe : binN ns = [] := by simpa using h1
      have hv0 : (vs.drop 9).take 4 = [] := List.eq_nil_of_length_eq_zero (by rw [hb13, hbe]; rfl)
      have := cj1_none T K ((olOf l vs n ns).cj w.params L cl true (d.n 0) (d.n 2) [] 0 (d.n 0 + 2) (d.n 0 + 1) 0 0 (iv (binN ns)) 0 1)
      have hg : Spec prog w top (rL1B top w.params ((olOf l vs n ns).cj w.params L cl true (d.n 0) (d.n 2) ((vs.drop 9).take 4) 0 (d.n 0 + 2) (d.n 0 + 1) 0 0 (iv (binN ns)) (binN ns).length 1)) := by
        rw [hv0, hbe]; exact this
      exact hg
    | false =>
      have hbe : binN ns ≠ [] := by simpa using h1
      have hne : (vs.drop 9).take 4 ≠ [] := by
        intro hh; rw [hh] at hb13
        exact hbe (List.eq_nil_of_length_eq_zero hb13.symm)
      have := cj1_some T K ((olOf l vs n ns).cj w.params L cl false (d.n 0) (d.n 2) ((vs.drop 9).take 4) 0 (d.n 0 + 2) (d.n 0 + 1) 0 0 (iv (binN ns)) (binN ns).length 1) _ _ hne hZ13 (by omega)
      rw [hb13] at this
      exact this
  · have hI := cel_I (u0.n 1 + 1) ns (u1.m 0)
    have hlen : (C3 (u0.n 1 + 1) ++ iv (binN ns) (u1.m 0)).length = (celN ns).length := hI.length
    have := cj2_some T K ((olOf l vs n ns).cj w.params L cl false (e.n 0 + 1) (e.n 2) (C3 (u0.n 1 + 1) ++ iv (binN ns) (u1.m 0)) 0 (e.n 0 + 3) (e.n 0 + 2) (e.n 0) (e.n 1 + 1) (qv (celN ns)) (celN ns).length 2) _ _ (by intro hh; rw [hh] at hlen; cases hlen) hI (celN_lt ns) (by omega)
    rw [hlen] at this
    exact this
  · have hI := cel_I (u0.n 1 + 1) ns (u1.m 0)
    have := sPln T K (tabN ns) (tabN_lt ns) (e.n 2) (C3 (u0.n 1 + 1) ++ iv (binN ns) (u1.m 0)) (b.n 0 + 1) (iv (tblN ns) (u0.m 0)) 9 (f.n 1 + 1) (tab_at ns _) 1 (0 :: 2 :: binN ns) (celN_lt ns) hc7 hI
    rw [← finN_eq] at this
    exact this
  · obtain ⟨s4, sl⟩ := fin_seen ns
    have hI := isI_iv (finN ns).seen (g.m 0)
    have hlen : (iv (finN ns).seen (g.m 0)).length = 12 := by rw [hlI, sl]
    have := cj3_some T K ((olOf l vs n ns).cj w.params L cl false (g.n 0 + 3) (g.n 3) (iv (finN ns).seen (g.m 0)) 12 (g.n 0 + 5) (g.n 0 + 4) (e.n 0) (e.n 1 + 1) (wv (finN ns).seen) 12 3) _ _ (by intro hh; rw [hh] at hlen; cases hlen) hI s4 (by omega)
    rw [hlen] at this
    exact this
  · have e0 : (iv ((finN ns).L.reverse ++ (finN ns).R) (g.m 2)).take (finN ns).L.length = iv (finN ns).L.reverse (g.m 2) := by
      rw [iv_app, ← List.length_reverse (as := (finN ns).L), ← hlI (finN ns).L.reverse (g.m 2), List.take_left]
    have hg : Spec prog w top (rL4B top w.params ((olOf l vs n ns).cj w.params L cl e4 (u3.n 0) (g.n 5) (iv (finN ns).L.reverse (g.m 2)) 0 (u3.n 0 + 2) (u3.n 0 + 1) (e.n 0) (e.n 1 + 1) (wv (finN ns).L.reverse) (finN ns).L.length 4)) := by
      have hI := isI_iv (finN ns).L.reverse (g.m 2)
      have hlen : (iv (finN ns).L.reverse (g.m 2)).length = (finN ns).L.length := by rw [hlI, List.length_reverse]
      cases e4 with
      | true =>
        have hbe : (finN ns).L = [] := by simpa using h4
        have := cj4_none T K ((olOf l vs n ns).cj w.params L cl true (u3.n 0) (g.n 5) [] 0 (u3.n 0 + 2) (u3.n 0 + 1) (e.n 0) (e.n 1 + 1) (wv []) 0 4)
        rw [hbe]; exact this
      | false =>
        have hbe : (finN ns).L ≠ [] := by simpa using h4
        have := cj4_some T K ((olOf l vs n ns).cj w.params L cl false (u3.n 0) (g.n 5) (iv (finN ns).L.reverse (g.m 2)) 0 (u3.n 0 + 2) (u3.n 0 + 1) (e.n 0) (e.n 1 + 1) (wv (finN ns).L.reverse) (finN ns).L.length 4) _ _ (by intro hh; rw [hh] at hlen; exact hbe (List.eq_nil_of_length_eq_zero hlen.symm)) hI (fun k hk => hff.L k (List.mem_reverse.mp hk)) (by omega)
        rw [hlen] at this
        exact this
    rw [← e0] at hg
    exact hg
  · have e0 : (iv ((finN ns).L.reverse ++ (finN ns).R) (g.m 2)).drop (finN ns).L.length = iv (finN ns).R (fun i => g.m 2 (i + (finN ns).L.reverse.length)) := by
      rw [iv_app, ← List.length_reverse (as := (finN ns).L), ← hlI (finN ns).L.reverse (g.m 2), List.drop_left, hlI]
    have hg : Spec prog w top (rL5B top w.params ((olOf l vs n ns).cj w.params L cl e5 (u4.n 0) (g.n 6) (iv (finN ns).R (fun i => g.m 2 (i + (finN ns).L.reverse.length))) 0 (u4.n 0 + 2) (u4.n 0 + 1) (e.n 0) (e.n 1 + 1) (wv (finN ns).R) (finN ns).R.length 5)) := by
      have hI := isI_iv (finN ns).R (fun i => g.m 2 (i + (finN ns).L.reverse.length))
      have hlen : (iv (finN ns).R (fun i => g.m 2 (i + (finN ns).L.reverse.length))).length = (finN ns).R.length := by rw [hlI]
      cases e5 with
      | true =>
        have hbe : (finN ns).R = [] := by simpa using h5
        have := cj5_none T K ((olOf l vs n ns).cj w.params L cl true (u4.n 0) (g.n 6) [] 0 (u4.n 0 + 2) (u4.n 0 + 1) (e.n 0) (e.n 1 + 1) (wv []) 0 5)
        rw [hbe]; exact this
      | false =>
        have hbe : (finN ns).R ≠ [] := by simpa using h5
        have := cj5_some T K ((olOf l vs n ns).cj w.params L cl false (u4.n 0) (g.n 6) (iv (finN ns).R (fun i => g.m 2 (i + (finN ns).L.reverse.length))) 0 (u4.n 0 + 2) (u4.n 0 + 1) (e.n 0) (e.n 1 + 1) (wv (finN ns).R) (finN ns).R.length 5) _ _ (by intro hh; rw [hh] at hlen; exact hbe (List.eq_nil_of_length_eq_zero hlen.symm)) hI hff.R (by omega)
        rw [hlen] at this
        exact this
    rw [← e0] at hg
    exact hg
  · have hx := celN_txt ns
    have := sTwo T K FX (tabN ns) (tabN_lt ns) (bT (celN ns)) (celN_size ns) 1 (0 :: 2 :: binN ns) (celN_lt ns) hc7 hx (f.n 2) (b.n 0 + 1) (iv (tblN ns) (u0.m 0)) 9 (u5.n 1 + 1) (tab_at ns _) (fEnv top 828 "law.<locals>." L [(.ofString "pool", cl)]) L ((olOf l vs n ns).ou top w.params L cl t0 b u0 e f g u5).F1 hkm rfl (by intro vs h; cases h)
    exact this
theorem t1_spec (l : Addr) (vs : List Value) (n : Nat) (ns : List Int) (hv : IsZ ns vs) (hl : vs.length ≤ 63) (L cl t0 : Nat) (hkm : (fEnv top 828 "law.<locals>." L [(.ofString "pool", cl)]).scope.kind ≠ .module) :
    SpecT prog w top (rT1 top w.params (olOf l vs n ns) L cl t0) (rT1T top w.params (olOf l vs n ns) L cl t0) := by
  have R := fun m tk e1 e4 e5 h1 h4 h5 => rT1_rcs T K FX l vs n ns hv hl L cl t0 m tk hkm e1 e4 e5 h1 h4 h5
  have hne := fin_some ns
  cases h1 : (binN ns).isEmpty <;> cases h4 : (finN ns).L.isEmpty <;> cases h5 : (finN ns).R.isEmpty
  · exact specT_chk T _ rfl (rT1_0 top w.params (olOf l vs n ns) L cl t0) (rT1_0T top w.params (olOf l vs n ns) L cl t0) _ _ (rT1_0R top w.params (olOf l vs n ns) L cl t0) (fun m tk => R m tk _ _ _ h1 h4 h5) _ _ _ _ _ (by exact Nat.le_of_ble_eq_true rfl) (by rfl) (fun _ => by rfl) (by decide) (K.rT1_0 _ (olOf l vs n ns) L cl t0)
  · exact specT_chk T _ rfl (rT1_2 top w.params (olOf l vs n ns) L cl t0) (rT1_2T top w.params (olOf l vs n ns) L cl t0) _ _ (rT1_2R top w.params (olOf l vs n ns) L cl t0) (fun m tk => R m tk _ _ _ h1 h4 h5) _ _ _ _ _ (by exact Nat.le_of_ble_eq_true rfl) (by rfl) (fun _ => by rfl) (by decide) (K.rT1_2 _ (olOf l vs n ns) L cl t0)
  · exact specT_chk T _ rfl (rT1_1 top w.params (olOf l vs n ns) L cl t0) (rT1_1T top w.params (olOf l vs n ns) L cl t0) _ _ (rT1_1R top w.params (olOf l vs n ns) L cl t0) (fun m tk => R m tk _ _ _ h1 h4 h5) _ _ _ _ _ (by exact Nat.le_of_ble_eq_true rfl) (by rfl) (fun _ => by rfl) (by decide) (K.rT1_1 _ (olOf l vs n ns) L cl t0)
  · exact absurd ⟨h4, h5⟩ hne
  · exact specT_chk T _ rfl (rT1_3 top w.params (olOf l vs n ns) L cl t0) (rT1_3T top w.params (olOf l vs n ns) L cl t0) _ _ (rT1_3R top w.params (olOf l vs n ns) L cl t0) (fun m tk => R m tk _ _ _ h1 h4 h5) _ _ _ _ _ (by exact Nat.le_of_ble_eq_true rfl) (by rfl) (fun _ => by rfl) (by decide) (K.rT1_3 _ (olOf l vs n ns) L cl t0)
  · exact specT_chk T _ rfl (rT1_5 top w.params (olOf l vs n ns) L cl t0) (rT1_5T top w.params (olOf l vs n ns) L cl t0) _ _ (rT1_5R top w.params (olOf l vs n ns) L cl t0) (fun m tk => R m tk _ _ _ h1 h4 h5) _ _ _ _ _ (by exact Nat.le_of_ble_eq_true rfl) (by rfl) (fun _ => by rfl) (by decide) (K.rT1_5 _ (olOf l vs n ns) L cl t0)
  · exact specT_chk T _ rfl (rT1_4 top w.params (olOf l vs n ns) L cl t0) (rT1_4T top w.params (olOf l vs n ns) L cl t0) _ _ (rT1_4R top w.params (olOf l vs n ns) L cl t0) (fun m tk => R m tk _ _ _ h1 h4 h5) _ _ _ _ _ (by exact Nat.le_of_ble_eq_true rfl) (by rfl) (fun _ => by rfl) (by decide) (K.rT1_4 _ (olOf l vs n ns) L cl t0)
  · exact absurd ⟨h4, h5⟩ hne
theorem t2_spec (X : OL) (L cl t0 : Nat) (y : Ov) (o : Obj) : SpecT prog w top (rT2 top w.params X L cl t0 y o) (rT2_0T top w.params X L cl t0 y o) ∧ SpecT prog w top (rT2 top w.params X L cl t0 y o) (rT2_1T top w.params X L cl t0 y o) :=
  ⟨specT_chk T _ rfl (rT2_0 top w.params X L cl t0 y o) (rT2_0T top w.params X L cl t0 y o) _ _ (rT2_0R top w.params X L cl t0 y o) (fun m tk => rcs_nil) _ _ _ _ _ (by exact Nat.le_of_ble_eq_true rfl) (by rfl) (fun _ => by rfl) (by decide) (K.rT2_0 _ X L cl t0 y o),
   specT_chk T _ rfl (rT2_1 top w.params X L cl t0 y o) (rT2_1T top w.params X L cl t0 y o) _ _ (rT2_1R top w.params X L cl t0 y o) (fun m tk => rcs_nil) _ _ _ _ _ (by exact Nat.le_of_ble_eq_true rfl) (by rfl) (fun _ => by rfl) (by decide) (K.rT2_1 _ X L cl t0 y o)⟩
theorem t3_spec (l : Addr) (vs : List Value) (n : Nat) (ns : List Int) (L cl t0 : Nat) (y : Ov) (o : Obj) : SpecT prog w top (rT3 top w.params (olOf l vs n ns) L cl t0 y o) (rT3T top w.params (olOf l vs n ns) L cl t0 y o) := by
  have hc7 := celN_len ns
  have hI := cel_I (y.n 27) ns (y.m 1)
  have hlen : (C3 (y.n 27) ++ iv (binN ns) (y.m 1)).length = (celN ns).length := hI.length
  refine specT_chk T _ rfl _ _ _ _ _ (fun m tk => rcs_cons (fun _ => sLenL prog w top _ (C3 (y.n 27) ++ iv (binN ns) (y.m 1)) _ (by omega)) fun a => rcs_cons (fun _ => ?_) fun _ => rcs_nil) _ _ _ _ _ (by exact Nat.le_of_ble_eq_true rfl) (by rfl) (fun _ => by rfl) (by decide) (K.rT3 _ (olOf l vs n ns) L cl t0 y o)
  have := sOne T K (tabN ns) (tabN_lt ns) (bT (celN ns)) 1 (0 :: 2 :: binN ns) (celN_lt ns) hc7 (celN_txt ns) (y.n 14) (y.n 12) (iv (tblN ns) (y.m 0)) 9 tk (a.n 2 + 1) (tab_at ns _)
  rw [← finN_eq] at this
  have e : owOf (bT (celN ns)) (y.n 14) (y.n 12) (iv (tblN ns) (y.m 0)) 9 tk (a.n 2 + 1) 1 (0 :: 2 :: binN ns) (finN ns) (ver (tabN ns) 12 (one0 1 (0 :: 2 :: binN ns)) ((1 :: 0 :: 2 :: binN ns).length + 1)) = (olOf l vs n ns).ow y tk (a.n 2 + 1) := by
    show _ = ({ b := bT (celN ns), tb := y.n 14, tab := y.n 12, tt := iv (tblN ns) (y.m 0), nt := 9, st := 12, ts := tk, size := (C3 (y.n 27) ++ iv (binN ns) (y.m 1)).length, tz := a.n 2 + 1, XS := _, pf := _, kf := _, SS := _, q := _, SF := _, PB := _, kB := _, V := _, j := _ } : OW)
    rw [hlen]; rfl
  rw [e] at this
  exact this
end
end Mine
end
end
section
open PySem PySem.W PySem.W.X PyProof.Rows PySem.Calls PySem.MeetsSeq PySem.SeqAt
noncomputable section
namespace Mine
noncomputable def boolP (e : Expr) : Pos := match e with | .BoolOp _ _ p => p | _ => default
noncomputable def cmpP (e : Expr) : Pos := match e with | .Compare _ _ _ p => p | _ => default
/-- the law's last line -/
noncomputable def lastB (top : KT) (p1 p2 p3 : Pos) : Expr := .BoolOp .And [.Compare (rw2 top) [.Eq] [rwD top 0] p1, .Compare (rw1 top) [.Eq] [rwD top 1] p2] p3
noncomputable def FactB (top : KT) : Prop := stmtsOf (fnOf top 828) = takeS (stmtsOf (fnOf top 828)) 6 ++ [.Return (some (lastB top (cmpP (boolN (stE (nthS (stmtsOf (fnOf top 828)) 6)) 0)) (cmpP (boolN (stE (nthS (stmtsOf (fnOf top 828)) 6)) 1)) (boolP (stE (nthS (stmtsOf (fnOf top 828)) 6))))) (stP (nthS (stmtsOf (fnOf top 828)) 6))]
theorem execs_app : ∀ (a b : List Stmt) (env : Env), execs (a ++ b) env = execs a env >>= fun f => match f with | .next => execs b env | f => pure f
  | [], b, env => rfl
  | s :: a, b, env => by
    have e1 : execs (s :: a ++ b) env = exec s env >>= fun f => match f with | .next => execs (a ++ b) env | f => pure f := rfl
    have e2 : execs (s :: a) env = exec s env >>= fun f => match f with | .next => execs a env | f => pure f := rfl
    rw [e1, e2, LawfulMonad.bind_assoc]
    congr 1
    funext f
    cases f <;> first | exact execs_app a b env | rfl
theorem no_mark (e : Expr) : behindInMarks .Eq e = false := by
  cases e with
  | Set elts k p =>
    show (k == 0 && (CmpOp.Eq == CmpOp.In || CmpOp.Eq == CmpOp.NotIn) && elts.all (constantsAlone 8)) = false
    rw [show (CmpOp.Eq == CmpOp.In || CmpOp.Eq == CmpOp.NotIn) = false from rfl, Bool.and_false, Bool.false_and]
  | _ => rfl
theorem eval_cmp (l r : Expr) (p : Pos) (env : Env) : eval (.Compare l [.Eq] [r] p) env = eval l env >>= fun a => compareChain p a [.Eq] [eval r env] := by
  have e : eval (.Compare l [.Eq] [r] p) env = eval l env >>= fun a => compareChain p a [.Eq] [markedBehindIn .Eq r (eval r env)] := rfl
  rw [e, markedBehindIn_of_false (no_mark r)]
section
variable {M : Model} {A : Around} {c : Code} {E : Value → Shared → Prop} {s : Shared}
theorem own_onRaise {α : Type} {t : Sem α} {k : Value → Sem Unit} {Q : α → Shared → Prop} (h : wpOwn M A c t Q (fun _ _ => False) s) : wpOwn M A c (t.onRaise k) Q E s := fun Γ p hc hΓ => by
  rw [Sem.wp_onRaise]
  exact Sem.wp_mono _ _ _ (fun _ _ _ h => h) (fun _ _ _ h => h.elim) _ _ (h Γ p hc hΓ)
theorem own_pure {α : Type} {a : α} {Q : α → Shared → Prop} (h : Q a s) : wpOwn M A c (pure a) Q E s := fun _ _ _ _ => h
theorem own_standAt {pos : Pos} {Q : Unit → Shared → Prop} (h : Q () s) : wpOwn M A c (standAt pos) Q E s := fun _ _ _ _ => h
theorem own_point {Q : Unit → Shared → Prop} (h : Q () s) : wpOwn M A c point Q E s := fun _ _ _ _ => h
theorem own_holding {α : Type} {vs : List Value} {m : Sem α} {Q : α → Shared → Prop} (h : wpOwn M A c m Q E s) : wpOwn M A c (holding vs m) Q E s := fun Γ p hc hΓ => by rw [Sem.wp_holding]; exact h Γ p hc hΓ
theorem own_operate {vs : List Value} {m : Sem Value} {Q : Value → Shared → Prop} (h : wpOwn M A c m Q E s) : wpOwn M A c (operate vs m) Q E s := fun Γ p hc hΓ => by rw [Sem.wp_operate]; exact h Γ p hc hΓ
theorem own_chain {pos : Pos} {a : Value} {op : CmpOp} {r : Sem Value} {Q : Value → Shared → Prop} (h : wpOwn M A c r (fun b s1 => wpOwn M A c (compareOp op a b) Q E s1) E s) : wpOwn M A c (compareChain pos a [op] [r]) Q E s := by
  show wpOwn M A c (do
    let rv ← holding [a] r
    standAt pos
    operate [a, rv] (compareOp op a rv)) Q E s
  exact wpOwn_bind (own_holding (wpOwn_mono h (fun b s1 h1 => wpOwn_bind (own_standAt (own_operate h1))) fun _ _ x => x))
theorem own_and {pos : Pos} {x y : Sem Value} {Q : Value → Shared → Prop} (h : wpOwn M A c x (fun v s1 => v = .bool true ∧ wpOwn M A c y Q E s1) E s) : wpOwn M A c (boolOp pos .And [x, y]) Q E s := by
  show wpOwn M A c (do
    let v ← x
    standAt pos
    let t ← holding [v] (truthy v)
    match BoolOp.And, t with
    | .And, false | .Or, true => pure v
    | _, _ => boolOp pos .And [y]) Q E s
  refine wpOwn_bind (wpOwn_mono h (fun v s1 h1 => ?_) fun _ _ x => x)
  obtain ⟨rfl, h2⟩ := h1
  refine wpOwn_bind (own_standAt (wpOwn_bind (own_holding ?_)))
  exact own_pure (show wpOwn M A c y Q E s1 from h2)
/-- statements, then a value -/
theorem own_exV {β : Type} {ss : List Stmt} {pos : Pos} {e : Expr} {env : Env} {k : Value → Sem β} {kk : Flow → Sem β} {Q : β → Shared → Prop}
    (h : wpOwn M A c (exV ss pos e env) (fun fin s' => ∀ f, fin = .done f → ∃ v, f = .ret v ∧ wpOwn M A c (k v) Q E s') (fun _ _ => False) s) :
    wpOwn M A c (execs ss env >>= fun f => match f with | .next => standAt pos >>= fun _ => eval e env >>= k | f => kk f) Q E s := by
  intro Γ p hc hΓ
  have z := h Γ p hc hΓ
  unfold exV at z
  rw [← PySem.W.ZFast.ze12563942051412417395] at z
  simp only [← PySem.W.ZFast.ze14044960220447912780] at z
  rw [Sem.wp_bind'] at z ⊢
  refine Sem.wp_mono _ _ _ (fun f p1 s1 z1 => ?_) (fun _ _ _ h => h.elim) _ _ z
  cases f with
  | next =>
    dsimp only at z1 ⊢
    rw [Sem.wp_bind'] at z1 ⊢
    have z2 : Sem.wp _ Γ (eval e env >>= fun v => pure (Fin.done (.ret v))) (fun fin (_ : Pos) s' => ∀ f, fin = .done f → ∃ v, f = .ret v ∧ wpOwn M A c (k v) Q E s') (fun _ _ _ => False) pos s1 := z1
    show Sem.wp _ Γ (eval e env >>= k) _ _ pos s1
    rw [Sem.wp_bind'] at z2 ⊢
    refine Sem.wp_mono _ _ _ (fun v p2 s2 z3 => ?_) (fun _ _ _ h => h.elim) _ _ z2
    obtain ⟨v', e', z4⟩ := z3 (.ret v) rfl
    cases e'
    exact z4 Γ p2 hc hΓ
  | _ =>
    obtain ⟨v', e', _⟩ := z1 .brk rfl
    cases e'
theorem own_exE {e : Expr} {env : Env} {Q : Value → Shared → Prop} (h : wpOwn M A c (exE e env) (fun fin s' => ∀ f, fin = .done f → ∃ v, f = .ret v ∧ Q v s') (fun _ _ => False) s) : wpOwn M A c (eval e env) Q E s := by
  intro Γ p hc hΓ
  have z := h Γ p hc hΓ
  unfold exE at z
  rw [← PySem.W.ZFast.ze14044960220447912780, Sem.wp_bind'] at z
  refine Sem.wp_mono _ _ _ (fun v p2 s2 z3 => ?_) (fun _ _ _ h => h.elim) _ _ z
  obtain ⟨v', e', z4⟩ := z3 (.ret v) rfl
  cases e'
  exact z4
end
/-- a tree's contract, in use -/
theorem specT_own {prog : Program} {w : World} {top : KT} {r : Rc} {t : Sem Fin} (H : SpecT prog w top r t) {A : Around} (fA : Fine A r.lvl) (ffr : FrOk A r.fr) {s : Shared} (tp : Tp top s.heap) (hpre : ∀ q ∈ r.pre, s.heap.get? q.1 = some q.2 ∧ top.get q.1 = none) (nd : (r.pre.map (·.1)).Nodup)
    (g : Ov → Value) (hr : ∀ x, r.res x = .ok (.ret (g x))) {Q : Value → Shared → Prop} (hQ : ∀ (x : Ov) (s' : Shared), Tp top s'.heap → s'.gens = s.gens → s'.drawn = s.drawn → s'.os = s.os → s'.toks = x.n 1 → After r x s.heap s'.heap → Q (g x) s') :
    wpOwn (model prog w) A r.code t (fun fin s' => ∀ f, fin = .done f → ∃ v, f = .ret v ∧ Q v s') (fun _ _ => False) s := by
  refine wpOwn_mono (H A fA ffr s tp hpre nd) (fun fin s' h => ?_) (fun e s' h => ?_)
  · obtain ⟨tp', h⟩ := h
    intro f hf
    subst hf
    obtain ⟨x, hx, a, b, c, d, e⟩ := (show SP r s (.ok f) s' from h)
    rw [hr] at hx
    cases hx
    exact ⟨_, rfl, hQ x s' tp' a b c d e⟩
  · obtain ⟨x, hx, _⟩ := (show SP r s (.error e) s' from h)
    rw [hr] at hx; cases hx
end Mine
end
end
section
open PySem PySem.W PySem.W.X PyProof.Rows PySem.Calls PySem.MeetsSeq PySem.SeqAt
noncomputable section
namespace Mine
noncomputable def andK (pos : Pos) (v : Value) (y : Sem Value) : Sem Value := standAt pos >>= fun _ => holding [v] (truthy v) >>= fun t => match BoolOp.And, t with
    | .And, false | .Or, true => pure v
    | _, _ => boolOp pos .And [y]
theorem ret_eq (ss : List Stmt) (l1 r1 c2 : Expr) (q1 q3 q4 : Pos) (env : Env) : execs (ss ++ [.Return (some (.BoolOp .And [.Compare l1 [.Eq] [r1] q1, c2] q3)) q4]) env =
    execs ss env >>= fun f => match f with | .next => standAt q4 >>= fun _ => eval l1 env >>= fun a => (compareChain q1 a [.Eq] [eval r1 env] >>= fun v => andK q3 v (eval c2 env)) >>= fun v => pure (.ret v) | f => pure f := by
  rw [execs_app]
  congr 1
  funext f
  cases f with
  | next =>
    show execs [.Return (some (.BoolOp .And [.Compare l1 [.Eq] [r1] q1, c2] q3)) q4] env = _
    have e0 : execs [.Return (some (.BoolOp .And [.Compare l1 [.Eq] [r1] q1, c2] q3)) q4] env = exec (.Return (some (.BoolOp .And [.Compare l1 [.Eq] [r1] q1, c2] q3)) q4) env >>= fun f => match f with | .next => execs [] env | f => pure f := rfl
    have e1 : exec (.Return (some (.BoolOp .And [.Compare l1 [.Eq] [r1] q1, c2] q3)) q4) env = standAt q4 >>= fun _ => eval (.BoolOp .And [.Compare l1 [.Eq] [r1] q1, c2] q3) env >>= fun v => pure (.ret v) := rfl
    have e2 : eval (.BoolOp .And [.Compare l1 [.Eq] [r1] q1, c2] q3) env = eval (.Compare l1 [.Eq] [r1] q1) env >>= fun v => andK q3 v (eval c2 env) := rfl
    rw [e0, e1, e2, eval_cmp]
    simp only [LawfulMonad.bind_assoc, LawfulMonad.pure_bind]
  | _ => rfl
theorem IsW.rev {ws : List Nat} {xs : List Value} (h : IsW ws xs) : IsW ws.reverse xs.reverse := by
  induction h with
  | nil => exact .nil
  | cons t h ih => rw [List.reverse_cons, List.reverse_cons]; exact ih.append (.one _ _)
/-- all that a call keeps -/
theorem keep_all {r : Rc} {x : Ov} {h h' : Heap} (a : After r x h h') {S : List Addr} (hS : ∀ q ∈ r.pre.zip (r.post x), q.1.1 ∉ S → h.get? q.1.1 = some q.2) (hp : ∀ q ∈ r.pre, ∃ y, (q, y) ∈ r.pre.zip (r.post x)) : ∀ b ob, b ∉ S → h.get? b = some ob → h'.get? b = some ob := by
  intro b ob hb e
  obtain ⟨a1, a2, a3, a4, a5, a6, a7⟩ := a
  by_cases hq : ∀ q ∈ r.pre, q.1 ≠ b
  · exact a5 b ob e hq
  · obtain ⟨q, hq'⟩ := Classical.not_forall.mp hq
    obtain ⟨hm, he⟩ := Classical.not_imp.mp hq'
    have he := Classical.not_not.mp he
    obtain ⟨y, hy⟩ := hp q hm
    have h1 := hS (q, y) hy (by rw [he]; exact hb)
    have h2 := a4 (q, y) hy
    dsimp only at h1 h2
    rw [he] at h1 h2
    rw [h2, ← h1, e]
section
variable {prog : Program} {w : World} {top : KT} (T : Top top prog w) (K : Checks w.params prog top) (FX : Facts top)
include T K FX
theorem sLawBd (FB : FactB top) (l : Addr) (vs : List Value) (n : Nat) (ns : List Int) (hv : IsZ ns vs) (hl : vs.length ≤ 63) (L cl t0 : Nat) : Spec prog w top (rLawBd top w.params (olOf l vs n ns) L cl t0) := by
  intro A fA ffr s tp hpre nd
  have nd' : [L, cl, l, 785].Nodup := nd
  obtain ⟨oL, tL⟩ := hpre (L, _) (.head _)
  obtain ⟨oC, tC⟩ := hpre (cl, cel0) (.tail _ (.head _))
  obtain ⟨oV, tV⟩ := hpre (l, lstO vs n) (.tail _ (.tail _ (.head _)))
  obtain ⟨oT, tT⟩ := hpre (785, tab0) (.tail _ (.tail _ (.tail _ (.head _))))
  dsimp only at oL tL oC tC oV tV oT tT
  have newTop : ∀ a, s.heap.objs.size ≤ a → top.get a = none := fun a ha => by
    cases h : top.get a with
    | none => rfl
    | some o => exact absurd (Heap.lt_size (tp a o h)) (Nat.not_lt.mpr ha)
  have hu : (A.under (Code.func (stmtsOf (fnOf top 828)) (envLw top L cl))).units + 2 < cLine := by
    have := (fA.under (c := Code.func (stmtsOf (fnOf top 828)) (envLw top L cl)) rfl).units
    have e : (rLawBd top w.params (olOf l vs n ns) L cl t0).lvl = 610 := rfl
    have : cLine = 9900 := rfl
    omega
  refine y_code _ _ _ _ _ _ ?_
  show wpOwn (model prog w) A (Code.func (stmtsOf (fnOf top 828)) (envLw top L cl)) (point >>= fun _ => ((execs (stmtsOf (fnOf top 828)) (envLw top L cl)).onRaise (leaving (envLw top L cl)) >>= fun f => match f with | .ret v => ret v | _ => ret .none)) _ _ s
  refine wpOwn_bind (own_point (wpOwn_bind (own_onRaise ?_)))
  have eb : execs (stmtsOf (fnOf top 828)) (envLw top L cl) = _ := (congrArg (fun b => execs b (envLw top L cl)) FB).trans (ret_eq _ _ _ _ _ _ _ _)
  rw [eb]
  refine own_exV ?_
  refine specT_own (t1_spec T K FX l vs n ns hv hl L cl t0 FX.k828) (fA.le (Nat.le_refl _)) ffr tp (fun q hq => ?_) ?_ (fun x => .ref (x.n 2)) (fun _ => rfl) fun x s1 tp1 gx dx ox kx ax => ?_
  · have hq' : q ∈ [(L, _), (cl, cel0), (l, lstO vs n)] := hq
    simp only [List.mem_cons, List.not_mem_nil, or_false] at hq'
    rcases hq' with rfl | rfl | rfl
    · exact ⟨oL, tL⟩
    · exact ⟨oC, tC⟩
    · exact ⟨oV, tV⟩
  · show [L, cl, l].Nodup
    exact (List.nodup_append.mp (show ([L, cl, l] ++ [785]).Nodup from nd')).1
  have ax' := ax
  obtain ⟨x1, x2, x3, x4, x5, x6, x7⟩ := ax'
  have gx0 : s1.heap.get? L = some (slo (fLw w.params (olOf l vs n ns) t0 x) (x.o 0)) := x4 ((L, _), _) (List.mem_of_getElem? (i := 0) rfl)
  have gx1 : s1.heap.get? cl = some (x.o 1) := x4 ((cl, _), _) (List.mem_of_getElem? (i := 1) rfl)
  have gx2 : s1.heap.get? l = some (lstO vs n) := x4 ((l, _), _) (List.mem_of_getElem? (i := 2) rfl)
  obtain ⟨n2, m2⟩ := x6 (x.n 2, _) (List.mem_of_getElem? (i := 0) rfl)
  obtain ⟨n3, m3⟩ := x6 (x.n 3, _) (List.mem_of_getElem? (i := 1) rfl)
  obtain ⟨n5, m5⟩ := x6 (x.n 5, _) (List.mem_of_getElem? (i := 2) rfl)
  obtain ⟨n6, m6⟩ := x6 (x.n 6, _) (List.mem_of_getElem? (i := 3) rfl)
  obtain ⟨n7, m7⟩ := x6 (x.n 7, _) (List.mem_of_getElem? (i := 4) rfl)
  obtain ⟨n8, m8⟩ := x6 (x.n 8, _) (List.mem_of_getElem? (i := 5) rfl)
  obtain ⟨n10, m10⟩ := x6 (x.n 10, _) (List.mem_of_getElem? (i := 6) rfl)
  obtain ⟨n11, m11⟩ := x6 (x.n 11, _) (List.mem_of_getElem? (i := 7) rfl)
  obtain ⟨n12, m12⟩ := x6 (x.n 12, _) (List.mem_of_getElem? (i := 8) rfl)
  obtain ⟨n13, m13⟩ := x6 (x.n 13, _) (List.mem_of_getElem? (i := 9) rfl)
  dsimp only at n2 m2 n3 m3 n5 m5 n6 m6 n7 m7 n8 m8 n10 m10 n11 m11 n12 m12 n13 m13
  have x7' : [x.n 2, x.n 3, x.n 5, x.n 6, x.n 7, x.n 8, x.n 10, x.n 11, x.n 12, x.n 13].Nodup := x7
  simp only [List.nodup_cons, List.mem_cons, List.not_mem_nil, or_false, not_or, List.nodup_nil, and_true] at x7'
  have ltL : L < s.heap.objs.size := Heap.lt_size oL
  have lt7 : 785 < s.heap.objs.size := Heap.lt_size oT
  have nL7 : L ≠ 785 := by
    intro e; rw [e] at nd'; exact absurd nd' (by simp)
  have n1T : s1.heap.get? 785 = some tab0 := x5 785 tab0 oT (by
    intro q hq e
    have hq' : q ∈ [(L, _), (cl, cel0), (l, lstO vs n)] := hq
    simp only [List.mem_cons, List.not_mem_nil, or_false] at hq'
    simp only [List.nodup_cons, List.mem_cons, List.not_mem_nil, or_false, not_or, List.nodup_nil, and_true] at nd'
    rcases hq' with rfl | rfl | rfl
    · exact nd'.1.2.2 e
    · exact nd'.2.1.2 e
    · exact nd'.2.2.1 e)
  -- the words of the two answers
  have w3 : IsW (finN ns).seen (wv (finN ns).seen (x.m 2)) := isW_wv _ _
  have w5 : IsW (finN ns).L.reverse (wv ((c2N ns).L ++ []) (x.m 3)).reverse := by
    rw [List.append_nil]; exact (isW_wv _ _).rev
  have w6 : IsW (finN ns).R (wv ((c2N ns).P ++ (c2N ns).Q) (x.m 4)) := isW_wv _ _
  have w8 : IsW (finN ns).seen (wv (finN ns).seen (x.m 5)) := isW_wv _ _
  have w10 : IsW (finN ns).L.reverse (wv (finN ns).L.reverse (x.m 6)) := isW_wv _ _
  have w11 : IsW (finN ns).R (wv (finN ns).R (x.m 7)) := isW_wv _ _
  refine wpOwn_bind (wpOwn_bind (own_chain ?_))
  -- the answer that is due
  refine own_exE (specT_own (t2_spec T K FX (olOf l vs n ns) L cl t0 x (x.o 0)).1 (fA.le (Nat.le_refl _)) ffr tp1 (fun q hq => ?_) ?_ (fun _ => .ref (x.n 7)) (fun _ => rfl) fun y s2 tp2 gy dy oy ky ay => ?_)
  · rcases List.mem_singleton.mp (show q ∈ [(L, _)] from hq) with rfl
    exact ⟨gx0, tL⟩
  · show [L].Nodup
    simp
  have k2 : ∀ b ob, s1.heap.get? b = some ob → s2.heap.get? b = some ob := fun b ob e => keep_all ay (S := []) (fun q hq _ => by
    rcases List.mem_singleton.mp (show q ∈ [((L, _), _)] from hq) with rfl
    exact gx0) (fun q hq => by
    rcases List.mem_singleton.mp (show q ∈ [(L, _)] from hq) with rfl
    exact ⟨_, List.mem_singleton_self _⟩) b ob (by simp) e
  refine wpOwn_of_wpAny (cmp_two (M := model prog w) (k2 _ _ n2) (k2 _ _ n7) (k2 _ _ n3) (k2 _ _ n5) (k2 _ _ n6) (k2 _ _ n8) (k2 _ _ n10) (k2 _ _ n11) w3 w5 w6 w8 w10 w11 ?_ ?_ ?_ hu ?_)
  · exact x7'.2.1.2.2.2.1
  · exact x7'.2.2.1.2.2.2.1
  · exact x7'.2.2.2.1.2.2.2.1
  refine wpOwn_bind (own_standAt (wpOwn_bind (own_holding (own_pure ?_))))
  show wpOwn _ A _ (eval (.Compare (rw1 top) [.Eq] [rwD top 1] _) (envLw top L cl)) _ _ s2
  rw [eval_cmp]
  refine wpOwn_bind ?_
  -- the second lexer
  have sz1 := ax.2.1
  refine own_exE (specT_own (t3_spec T K FX l vs n ns L cl t0 x (x.o 0)) (fA.le (Nat.le_refl _)) ffr tp2 (fun q hq => ?_) ?_ (fun u => .ref (u.n 2)) (fun _ => rfl) fun u s3 tp3 gu du ou ku au => ?_)
  · have hq' : q ∈ [(L, _), (x.n 12, _), (x.n 13, _), (785, tab0)] := hq
    simp only [List.mem_cons, List.not_mem_nil, or_false] at hq'
    rcases hq' with rfl | rfl | rfl | rfl
    · exact ⟨k2 _ _ gx0, tL⟩
    · exact ⟨k2 _ _ n12, newTop _ m12⟩
    · exact ⟨k2 _ _ n13, newTop _ m13⟩
    · exact ⟨k2 _ _ n1T, tT⟩
  · show [L, x.n 12, x.n 13, 785].Nodup
    simp only [List.nodup_cons, List.mem_cons, List.not_mem_nil, or_false, not_or, List.nodup_nil, and_true]
    refine ⟨⟨?_, ?_, nL7⟩, ⟨?_, ?_⟩, ?_, not_false⟩
    · omega
    · omega
    · exact x7'.2.2.2.2.2.2.2.2.1
    · omega
    · omega
  have k3 : ∀ b ob, b ≠ 785 → s2.heap.get? b = some ob → s3.heap.get? b = some ob := fun b ob nb e => keep_all au (S := [785]) (fun q hq hn => by
    have hq' : q ∈ [((L, _), _), ((x.n 12, _), _), ((x.n 13, _), _), ((785, tab0), tab1 (u.n 9))] := hq
    simp only [List.mem_cons, List.not_mem_nil, or_false] at hq'
    rcases hq' with rfl | rfl | rfl | rfl
    · exact k2 _ _ gx0
    · exact k2 _ _ n12
    · exact k2 _ _ n13
    · exact absurd (List.mem_singleton_self _) hn) (fun q hq => by
    have hq' : q ∈ [(L, _), (x.n 12, _), (x.n 13, _), (785, tab0)] := hq
    simp only [List.mem_cons, List.not_mem_nil, or_false] at hq'
    rcases hq' with rfl | rfl | rfl | rfl
    · exact ⟨_, List.mem_of_getElem? (i := 0) rfl⟩
    · exact ⟨_, List.mem_of_getElem? (i := 1) rfl⟩
    · exact ⟨_, List.mem_of_getElem? (i := 2) rfl⟩
    · exact ⟨_, List.mem_of_getElem? (i := 3) rfl⟩) b ob (by simpa using nb) e
  have au' := au
  obtain ⟨u1, u2, u3, u4, u5, u6, u7⟩ := au'
  obtain ⟨p2, q2⟩ := u6 (u.n 2, _) (List.mem_of_getElem? (i := 0) rfl)
  obtain ⟨p3, q3⟩ := u6 (u.n 3, _) (List.mem_of_getElem? (i := 1) rfl)
  obtain ⟨p5, q5⟩ := u6 (u.n 5, _) (List.mem_of_getElem? (i := 2) rfl)
  obtain ⟨p6, q6⟩ := u6 (u.n 6, _) (List.mem_of_getElem? (i := 3) rfl)
  have pT : s3.heap.get? 785 = some (tab1 (u.n 9)) := u4 ((785, tab0), _) (List.mem_of_getElem? (i := 3) rfl)
  dsimp only at p2 q2 p3 q3 p5 q5 p6 q6
  have far : ∀ a, s.heap.objs.size ≤ a → a ≠ 785 := fun a ha e => by omega
  have c7 := k3 _ _ (far _ m7) (k2 _ _ n7)
  have c8 := k3 _ _ (far _ m8) (k2 _ _ n8)
  have c10 := k3 _ _ (far _ m10) (k2 _ _ n10)
  have c11 := k3 _ _ (far _ m11) (k2 _ _ n11)
  have cL := k3 _ _ nL7 (k2 _ _ gx0)
  have apart : ∀ a b ob, s2.heap.objs.size ≤ a → s2.heap.get? b = some ob → a ≠ b := fun a b ob ha hb e => by
    rw [e] at ha
    exact absurd (Heap.lt_size hb) (Nat.not_lt.mpr ha)
  have d8 := apart _ _ _ q3 (k2 _ _ n8)
  have d10 := apart _ _ _ q5 (k2 _ _ n10)
  have d11 := apart _ _ _ q6 (k2 _ _ n11)
  have hW : IsW ((finN ns).R ++ 4 :: (finN ns).L.reverse) (wv ((finN ns).R ++ 4 :: (finN ns).L.reverse) (u.m 2)) := isW_wv _ _
  have v3 : IsW (finN ns).seen (wv (finN ns).seen (u.m 0)) := isW_wv _ _
  have v5 : IsW (finN ns).L.reverse ((txts (wt ((finN ns).R ++ 4 :: (finN ns).L.reverse) (u.m 2))).drop ((finN ns).R.length + 1)) := by
    have := hW.drop ((finN ns).R.length + 1)
    rw [show ((finN ns).R ++ 4 :: (finN ns).L.reverse).drop ((finN ns).R.length + 1) = (finN ns).L.reverse by
      rw [List.drop_append]; simp] at this
    exact this
  have v6 : IsW (finN ns).R ((txts (wt ((finN ns).R ++ 4 :: (finN ns).L.reverse) (u.m 2))).take (finN ns).R.length) := by
    have := hW.take (finN ns).R.length
    rw [List.take_left] at this
    exact this
  refine own_chain ?_
  refine own_exE (specT_own (t2_spec T K FX (olOf l vs n ns) L cl t0 x (x.o 0)).2 (fA.le (Nat.le_refl _)) ffr tp3 (fun q hq => ?_) ?_ (fun _ => .ref (x.n 7)) (fun _ => rfl) fun e s4 tp4 ge de oe ke ae => ?_)
  · rcases List.mem_singleton.mp (show q ∈ [(L, _)] from hq) with rfl
    exact ⟨cL, tL⟩
  · show [L].Nodup
    simp
  have k4 : ∀ b ob, s3.heap.get? b = some ob → s4.heap.get? b = some ob := fun b ob e => keep_all ae (S := []) (fun q hq _ => by
    rcases List.mem_singleton.mp (show q ∈ [((L, _), _)] from hq) with rfl
    exact cL) (fun q hq => by
    rcases List.mem_singleton.mp (show q ∈ [(L, _)] from hq) with rfl
    exact ⟨_, List.mem_singleton_self _⟩) b ob (by simp) e
  refine wpOwn_of_wpAny (cmp_two (M := model prog w) (k4 _ _ p2) (k4 _ _ c7) (k4 _ _ p3) (k4 _ _ p5) (k4 _ _ p6) (k4 _ _ c8) (k4 _ _ c10) (k4 _ _ c11) v3 v5 v6 w8 w10 w11 d8 d10 d11 hu ?_)
  refine own_pure ?_
  show wpOwn _ _ _ (ret (.bool true)) _ _ _
  refine own_pure ?_
  show ∃ z : Ov, _
  refine ⟨⟨fun i => match i with | 0 => s4.heap.objs.size | 1 => s4.toks | _ => u.n 9, fun _ _ => 0, fun i => match i with | 0 => slo (fLw w.params (olOf l vs n ns) t0 x) (x.o 0) | 1 => x.o 1 | 2 => lstO vs n | _ => tab1 (u.n 9), default, []⟩, rfl, by rw [ge, gu, gy, gx], by rw [de, du, dy, dx], by rw [oe, ou, oy, ox], rfl, rfl, ?_, rfl, ?_, ?_, ?_, ?_⟩
  · have h1 := ax.2.1; have h1' := ax.1
    have h2 := ay.2.1; have h2' := ay.1
    have h3 := au.2.1; have h3' := au.1
    have h4 := ae.2.1; have h4' := ae.1
    show s.heap.objs.size ≤ s4.heap.objs.size
    omega
  · intro q hq
    have hq' : q ∈ [((L, _), slo (fLw w.params (olOf l vs n ns) t0 x) (x.o 0)), ((cl, cel0), x.o 1), ((l, lstO vs n), lstO vs n), ((785, tab0), tab1 (u.n 9))] := hq
    simp only [List.mem_cons, List.not_mem_nil, or_false] at hq'
    simp only [List.nodup_cons, List.mem_cons, List.not_mem_nil, or_false, not_or, List.nodup_nil, and_true] at nd'
    rcases hq' with rfl | rfl | rfl | rfl
    · exact k4 _ _ cL
    · exact k4 _ _ (k3 _ _ nd'.2.1.2 (k2 _ _ gx1))
    · exact k4 _ _ (k3 _ _ nd'.2.2.1 (k2 _ _ gx2))
    · exact k4 _ _ pT
  · intro b ob e nb
    have hb : ∀ q ∈ [(L, _), (cl, cel0), (l, lstO vs n), (785, tab0)], q.1 ≠ b := nb
    refine k4 _ _ (k3 _ _ (fun h => hb (785, tab0) (by simp) h.symm) (k2 _ _ (x5 b ob e fun q hq => ?_)))
    have hq' : q ∈ [(L, _), (cl, cel0), (l, lstO vs n)] := hq
    simp only [List.mem_cons, List.not_mem_nil, or_false] at hq'
    rcases hq' with rfl | rfl | rfl
    · exact hb (L, _) (.head _)
    · exact hb (cl, cel0) (.tail _ (.head _))
    · exact hb (l, lstO vs n) (.tail _ (.tail _ (.head _)))
  · intro q hq; cases hq
  · exact List.nodup_nil
/-- the law, called -/
theorem sLaw (FB : FactB top) (l : Addr) (vs : List Value) (n : Nat) (ns : List Int) (hv : IsZ ns vs) (hl : vs.length ≤ 63) : Spec prog w top (rLaw top w.params (olOf l vs n ns)) :=
  spec_chk T _ rfl _ _ _ _ (fun m tk => rcs_cons (fun _ => sLawBd T K FX FB l vs n ns hv hl (m + 829) (m + 830) tk) fun _ => rcs_nil) _ _ _ _ _ (by exact Nat.le_of_ble_eq_true rfl) (by rfl) (fun _ => by rfl) (by decide) (K.rLaw _ (olOf l vs n ns))
end
end Mine
end
end
section
open PySem PySem.W PySem.W.X PyProof.Rows PySem.Calls
noncomputable section
namespace Mine
/-- the top without the one table that a call changes -/
noncomputable def cutT : List Bool → KT → KT := List.rec (motive := fun _ => KT → KT)
  (fun t => match t with | .nil => .nil | .node _ l r => .node none l r)
  (fun b _ ih t => match t with
    | .nil => .nil
    | .node v l r => match b with
      | true => .node v (ih l) r
      | false => .node v l (ih r))
noncomputable def p785 : List Bool := [true, false, true, true, false, true, true, true, false]
theorem cut_get : ∀ (bs : List Bool) (t : KT) (a : Nat) (o : Obj), (cutT bs t).get a = some o → t.get a = some o
  | [], .nil, a, o, h => h
  | [], .node v l r, a, o, h => by
    have h' : (KT.node none l r).get a = some o := h
    rw [KT.get_node] at h' ⊢
    by_cases h0 : a = 0
    · simp [h0] at h'
    · simpa [h0] using h'
  | b :: bs, .nil, a, o, h => h
  | true :: bs, .node v l r, a, o, h => by
    have h' : (KT.node v (cutT bs l) r).get a = some o := h
    rw [KT.get_node] at h' ⊢
    by_cases h0 : a = 0
    · simpa [h0] using h'
    · simp only [h0, if_false] at h' ⊢
      by_cases h1 : a % 2 = 1
      · simp only [h1, if_true] at h' ⊢
        exact cut_get bs l _ _ h'
      · simpa [h1] using h'
  | false :: bs, .node v l r, a, o, h => by
    have h' : (KT.node v l (cutT bs r)).get a = some o := h
    rw [KT.get_node] at h' ⊢
    by_cases h0 : a = 0
    · simpa [h0] using h'
    · simp only [h0, if_false] at h' ⊢
      by_cases h1 : a % 2 = 1
      · simpa [h1] using h'
      · simp only [h1, if_false] at h' ⊢
        exact cut_get bs r _ _ h'
theorem cut_785 : ∀ t : KT, (cutT p785 t).get 785 = none := by
  intro t
  cases h : (cutT p785 t).get 785 with
  | none => rfl
  | some o =>
    exfalso
    have key : ∀ (bs : List Bool) (t : KT) (a : Nat), (cutT bs t).get (bs.foldr (fun b i => if b then 2 * i + 1 else 2 * i + 2) 0) = none := by
      intro bs
      induction bs with
      | nil => intro t a; cases t <;> rfl
      | cons b bs ih =>
        intro t a
        cases t with
        | nil => cases b <;> rfl
        | node v l r =>
          cases b with
          | true =>
            show (KT.node v (cutT bs l) r).get (2 * _ + 1) = none
            rw [KT.get_node, if_neg (by omega), if_pos (by omega)]
            rw [show (2 * (List.foldr (fun b i => if b = true then 2 * i + 1 else 2 * i + 2) 0 bs) + 1) / 2 = List.foldr (fun b i => if b = true then 2 * i + 1 else 2 * i + 2) 0 bs by omega]
            exact ih l 0
          | false =>
            show (KT.node v l (cutT bs r)).get (2 * _ + 2) = none
            rw [KT.get_node, if_neg (by omega), if_neg (by omega)]
            rw [show (2 * (List.foldr (fun b i => if b = true then 2 * i + 1 else 2 * i + 2) 0 bs) + 2) / 2 - 1 = List.foldr (fun b i => if b = true then 2 * i + 1 else 2 * i + 2) 0 bs by omega]
            exact ih r 0
    have := key p785 t 0
    rw [show List.foldr (fun b i => if b = true then 2 * i + 1 else 2 * i + 2) 0 p785 = 785 from rfl, h] at this
    cases this
end Mine
end
end
section
open PySem PySem.W PySem.W.X PyProof.Rows PySem.Calls PySem.MeetsSeq PySem.SeqAt
noncomputable section
namespace Mine
theorem nl_same {h h' : Heap} (e : h.get? cStatics = h'.get? cStatics) : h.noLimitOk = h'.noLimitOk := by
  unfold Heap.noLimitOk Heap.isNs Heap.nsMap
  rw [e]
noncomputable def nlO (o : Obj) : Heap := (((({ objs := #[] } : Heap).push tab0).push tab0).push o)
noncomputable def nlTop (top : KT) : Bool := match top.get 2 with | some o => (nlO o).noLimitOk | none => false
theorem nl_top {top : KT} (h : nlTop top = true) {H : Heap} (tp : Tp top H) : H.NoLimit := by
  unfold nlTop at h
  cases e : top.get 2 with
  | none => rw [e] at h; cases h
  | some o =>
    rw [e] at h
    have h2 := tp 2 o e
    have hf : o.isFreed = false := (Heap.get?_some_iff.mp h2).2
    refine Heap.NoLimit.of_ok ?_
    rw [nl_same (h' := nlO o) (h2.trans (Heap.get?_push_size _ hf).symm)]
    exact h
theorem top_of {top : KT} {prog : Program} {w : World} (h : nlTop top = true) (h8 : (top.get 828).isSome = true) : Top top prog w :=
  ⟨fun H tp => nl_top h tp, fun H tp => by
    obtain ⟨o, ho⟩ := Option.isSome_iff_exists.mp h8
    exact Heap.lt_size (tp 828 o ho)⟩
theorem isZ_of : ∀ {vs : List Value} {ns : List Int}, IntsAre vs ns → IsZ ns vs
  | _, _, .nil => .nil
  | _, _, .cons n t r => .cons t (isZ_of r)
/-- a code object that holds the table at 785 -/
noncomputable def tabAt (kt : KT) (c : Nat) : Bool := match kt.get c with
  | some o => (match o.cls, o.data with | .type "code", .fields vs => (match (vs[11]? : Option Value) with | some (.ref a) => a == 785 | _ => false) | _, _ => false)
  | none => false
theorem tabAt_of {kt : KT} {c : Nat} (h : tabAt kt c = true) {H : Heap} (ZH : KT.Holds H 1 0 kt) : isCodeTable H 785 := by
  unfold tabAt at h
  cases e : kt.get c with
  | none => rw [e] at h; cases h
  | some o =>
    rw [e] at h
    dsimp only at h
    split at h
    · rename_i vs hc hd
      split at h
      · rename_i a hv
        have := beq_iff_eq.mp h
        subst this
        exact ⟨c, o, vs, kt_at ZH e, hc, hd, hv⟩
      · cases h
    · cases h
theorem law_end {prog : Program} {w : World} {kt : KT} {s₁ : Shared} {vs : List Value} {ns : List Int} {cc : Nat} (ZH : KT.Holds s₁.heap 1 0 kt) (hsz : s₁.heap.objs.size = 830) (hg : AllBare s₁.gens) (ho : s₁.heap.get? 829 = some (lstO vs 0)) (hv : IntsAre vs ns) (hl : vs.length ≤ 63)
    (h785 : kt.get 785 = some tab0) (h829 : kt.get 829 = none) (hcc : tabAt kt cc = true) (hnl : nlTop (cutT p785 kt) = true) (h8 : ((cutT p785 kt).get 828).isSome = true) (K : Checks w.params prog (cutT p785 kt)) (FX : Facts (cutT p785 kt)) (FB : FactB (cutT p785 kt))
    {c : ClaimW} {cl : Str → Option Addr} {mean : ExcName → Option Value} {args : List WData} (hn : ∀ x, c.raises args x = false) (hp : c.post args (.bool true) args = true) :
    wpAny (model prog w) callerA (call (.ref 828) [.ref 829]) (fun v s' => GoodWG c cl mean args s₁ (.ok (.ret v)) s') (fun e s' => GoodWG c cl mean args s₁ (.error e) s') s₁ := by
  have T : Top (cutT p785 kt) prog w := top_of hnl h8
  have tp : Tp (cutT p785 kt) s₁.heap := fun a o e => kt_at ZH (cut_get p785 kt a o e)
  have h9 : (cutT p785 kt).get 829 = none := by
    cases e : (cutT p785 kt).get 829 with
    | none => rfl
    | some o => have := cut_get p785 kt 829 o e; rw [h829] at this; cases this
  have S := sLaw T K FX FB 829 vs 0 ns (isZ_of hv) hl
  have Sx := S callerA ⟨rfl, by show 301 ≤ 600; decide, by show 4 ≤ 6000; decide⟩ (fun l e => by cases e; rfl) s₁ tp (fun q hq => by
    have hq' : q ∈ [(829, lstO vs 0), (785, tab0)] := hq
    simp only [List.mem_cons, List.not_mem_nil, or_false] at hq'
    rcases hq' with rfl | rfl
    · exact ⟨ho, h9⟩
    · exact ⟨kt_at ZH h785, cut_785 kt⟩) (by show [829, 785].Nodup; decide)
  refine y_start _ _ _ _ _ _ _ _ _ _ _ _ (by intro h; cases h) (codeAny_mono Sx fun res s' h => ?_)
  obtain ⟨x, rfl, xg, xd, xo, xt, xa⟩ := h
  obtain ⟨a1, a2, a3, a4, a5, a6, a7⟩ := xa
  have g0 : s'.heap.get? 829 = some (lstO vs 0) := a4 ((829, _), _) (List.mem_of_getElem? (i := 0) rfl)
  have g1 : s'.heap.get? 785 = some (tab1 (x.n 3)) := a4 ((785, _), _) (List.mem_of_getElem? (i := 1) rfl)
  show wpAny _ _ (pure (Value.bool true)) _ _ _
  refine wpAny_pure ?_
  show GoodWG c cl mean args s₁ (.ok (.ret (.bool true))) s'
  have oth : ∀ b o, s₁.heap.get? b = some o → b ≠ 829 → b ≠ 785 → s'.heap.get? b = some o := fun b o e n1 n2 => a5 b o e fun q hq h => by
    have hq' : q ∈ [(829, lstO vs 0), (785, tab0)] := hq
    simp only [List.mem_cons, List.not_mem_nil, or_false] at hq'
    rcases hq' with rfl | rfl
    · exact n1 h.symm
    · exact n2 h.symm
  have o785 : s₁.heap.get? 785 = some tab0 := kt_at ZH h785
  refine ⟨.inl ⟨_, _, [], rfl, hn, ReadsW.bool true, hp, fun _ => ⟨List.nodup_nil, fun _ hm => (nomatch hm)⟩⟩, ⟨fun b o e => ?_, fun b o e => ?_⟩, xo, by rw [xg]; exact hg⟩
  · by_cases n1 : b = 829
    · subst n1
      rw [ho] at e; cases e
      exact .inl g0
    by_cases n2 : b = 785
    · subst n2
      rw [o785] at e; cases e
      refine .inr (.inl ⟨tabAt_of hcc ZH, rfl, ⟨[]⟩, ⟨[.int 785 0, .int 4 0, .ref (x.n 3)]⟩, rfl, ?_⟩)
      rw [g1]; rfl
    exact .inl (oth b o e n1 n2)
  · by_cases n1 : b = 829
    · exact ⟨_, n1 ▸ g0⟩
    by_cases n2 : b = 785
    · exact ⟨_, n2 ▸ g1⟩
    exact ⟨o, oth b o e n1 n2⟩
end Mine
end
end
section
open PySem PySem.W PySem.W.X PyProof.Rows PySem.Calls
namespace Mine
/-! An equation as a lemma of its own whose proof is a bare `Eq.refl`: only the kernel compares the two sides. -/
noncomputable def hold {α : Type} (a : Option α) (_ : Option (Option α)) : Option α := a
theorem unhold {α : Type} {A B : α} (h : hold (some A) ((List.toArray [some B])[0]?) = some B) : A = B := Option.some.inj h
theorem kindNe {k : ScopeKind} (e : k = .function) : k ≠ .module := by subst e; intro h; cases h
end Mine
/-! Names that are taken ahead. For each constant that the head reaches the kit would lay a twin (tw..) and a proof that the two are equal (te..); such a proof is quadratic in the
objects of a state, and the compiled file would grow to some 240 MB. Where the twin's name is taken the kit does without the twin, and the kernel runs the state as it stands. -/
namespace Mine.hd
theorem tw10011791998875893689 : True := ⟨⟩
theorem tw10013610314069102560 : True := ⟨⟩
theorem tw10043549208716313151 : True := ⟨⟩
theorem tw10045293750204536338 : True := ⟨⟩
theorem tw10049839225202205368 : True := ⟨⟩
theorem tw10053515458378849207 : True := ⟨⟩
theorem tw10058362880679899624 : True := ⟨⟩
theorem tw10063371784711585949 : True := ⟨⟩
theorem tw10098318754811780475 : True := ⟨⟩
theorem tw10108864568775065764 : True := ⟨⟩
theorem tw10123334602600937467 : True := ⟨⟩
theorem tw10125179100815609898 : True := ⟨⟩
theorem tw10125598622565018879 : True := ⟨⟩
theorem tw10127471200610557780 : True := ⟨⟩
theorem tw10136955959730793301 : True := ⟨⟩
theorem tw10145285793190388307 : True := ⟨⟩
theorem tw10167249166492161046 : True := ⟨⟩
theorem tw10188524747001646133 : True := ⟨⟩
theorem tw10205803601322168763 : True := ⟨⟩
theorem tw10220581091169434988 : True := ⟨⟩
theorem tw10222884578374956678 : True := ⟨⟩
theorem tw10268538370885161699 : True := ⟨⟩
theorem tw10293571847597164272 : True := ⟨⟩
theorem tw10304952410344976868 : True := ⟨⟩
theorem tw10314642503281228288 : True := ⟨⟩
theorem tw10345023103473622941 : True := ⟨⟩
theorem tw10365350982590847200 : True := ⟨⟩
theorem tw10388740228680189751 : True := ⟨⟩
theorem tw10393874442385010029 : True := ⟨⟩
theorem tw10404859735558734524 : True := ⟨⟩
theorem tw10436927622101931143 : True := ⟨⟩
theorem tw10455556489620249130 : True := ⟨⟩
theorem tw10462248257125198703 : True := ⟨⟩
theorem tw10462336939700378846 : True := ⟨⟩
theorem tw10462821097141149598 : True := ⟨⟩
theorem tw10470945460059119541 : True := ⟨⟩
theorem tw10478309231170205813 : True := ⟨⟩
theorem tw10499945746459459514 : True := ⟨⟩
theorem tw10505569422824831874 : True := ⟨⟩
theorem tw10550934814861376266 : True := ⟨⟩
theorem tw10551371878241124502 : True := ⟨⟩
theorem tw10556274943049900109 : True := ⟨⟩
theorem tw10559877887918029398 : True := ⟨⟩
theorem tw10572434698572755760 : True := ⟨⟩
theorem tw1057320522189542611 : True := ⟨⟩
theorem tw10573247421160587617 : True := ⟨⟩
theorem tw10573583508705920283 : True := ⟨⟩
theorem tw10577622886491174268 : True := ⟨⟩
theorem tw10592492920068640101 : True := ⟨⟩
theorem tw10597071402764995876 : True := ⟨⟩
theorem tw10597794895767895361 : True := ⟨⟩
theorem tw10600947437114215650 : True := ⟨⟩
theorem tw10627116607987993007 : True := ⟨⟩
theorem tw10628869589665944745 : True := ⟨⟩
theorem tw10641872887744487320 : True := ⟨⟩
theorem tw10664695258360100019 : True := ⟨⟩
theorem tw10675038575893122398 : True := ⟨⟩
theorem tw10675541736276716066 : True := ⟨⟩
theorem tw10682608689191227812 : True := ⟨⟩
theorem tw10686043113389514610 : True := ⟨⟩
theorem tw10694430875524175484 : True := ⟨⟩
theorem tw10720578716558036085 : True := ⟨⟩
theorem tw10725140290258550878 : True := ⟨⟩
theorem tw10737694011296714009 : True := ⟨⟩
theorem tw10757513850759160966 : True := ⟨⟩
theorem tw10768795402259594627 : True := ⟨⟩
theorem tw10768892866870439841 : True := ⟨⟩
theorem tw108081159306986399 : True := ⟨⟩
theorem tw10809293155625720580 : True := ⟨⟩
theorem tw10833245147576865244 : True := ⟨⟩
theorem tw10841711949980488528 : True := ⟨⟩
theorem tw10884489996036237840 : True := ⟨⟩
theorem tw10891418142838693191 : True := ⟨⟩
theorem tw10906752586570659454 : True := ⟨⟩
theorem tw10907651710945456237 : True := ⟨⟩
theorem tw10930720807773345188 : True := ⟨⟩
theorem tw10940876191883419773 : True := ⟨⟩
theorem tw10944284786323348147 : True := ⟨⟩
theorem tw10960162206581295577 : True := ⟨⟩
theorem tw10972916072870632967 : True := ⟨⟩
theorem tw1098510452882186669 : True := ⟨⟩
theorem tw11006666010503597871 : True := ⟨⟩
theorem tw11026561052048104455 : True := ⟨⟩
theorem tw11031865241144821394 : True := ⟨⟩
theorem tw11032191969682350145 : True := ⟨⟩
theorem tw1103663570015955768 : True := ⟨⟩
theorem tw11063093250633709176 : True := ⟨⟩
theorem tw11078642985327205022 : True := ⟨⟩
theorem tw11082321542293168660 : True := ⟨⟩
theorem tw11094135839237829922 : True := ⟨⟩
theorem tw11107949956694005632 : True := ⟨⟩
theorem tw11120422211082629185 : True := ⟨⟩
theorem tw11159108015848724674 : True := ⟨⟩
theorem tw11166706320406732809 : True := ⟨⟩
theorem tw11171130422265166804 : True := ⟨⟩
theorem tw11173837332003881410 : True := ⟨⟩
theorem tw11174720204587422643 : True := ⟨⟩
theorem tw11190004267631704961 : True := ⟨⟩
theorem tw11209112536748137888 : True := ⟨⟩
theorem tw11209625204090476066 : True := ⟨⟩
theorem tw11221307398290510090 : True := ⟨⟩
theorem tw11237167707397388024 : True := ⟨⟩
theorem tw11246219596115306886 : True := ⟨⟩
theorem tw1125234497499537870 : True := ⟨⟩
theorem tw11258066867766033657 : True := ⟨⟩
theorem tw11259906649001119193 : True := ⟨⟩
theorem tw11263959870816090612 : True := ⟨⟩
theorem tw11271272921389507849 : True := ⟨⟩
theorem tw11272250967681958536 : True := ⟨⟩
theorem tw11274798710822564090 : True := ⟨⟩
theorem tw11327987920954880998 : True := ⟨⟩
theorem tw11331025366446083794 : True := ⟨⟩
theorem tw11372937695559146449 : True := ⟨⟩
theorem tw11380003134095133437 : True := ⟨⟩
theorem tw11382033877302309304 : True := ⟨⟩
theorem tw11407189213057866921 : True := ⟨⟩
theorem tw11430393564044965261 : True := ⟨⟩
theorem tw1144496826038529397 : True := ⟨⟩
theorem tw11446004684693339946 : True := ⟨⟩
theorem tw11456259960508224722 : True := ⟨⟩
theorem tw11469948268340454578 : True := ⟨⟩
theorem tw11474882554943197143 : True := ⟨⟩
theorem tw11488622315901566857 : True := ⟨⟩
theorem tw1150009085461363886 : True := ⟨⟩
theorem tw11517720524044408938 : True := ⟨⟩
theorem tw11536210426946427312 : True := ⟨⟩
theorem tw11538388733681170347 : True := ⟨⟩
theorem tw11538649607767763904 : True := ⟨⟩
theorem tw11543212670652671689 : True := ⟨⟩
theorem tw11554363194213106579 : True := ⟨⟩
theorem tw11572428696923059269 : True := ⟨⟩
theorem tw11576515045844845073 : True := ⟨⟩
theorem tw11587459113273184541 : True := ⟨⟩
theorem tw11624865999445466821 : True := ⟨⟩
theorem tw11643878904714001875 : True := ⟨⟩
theorem tw11655976253002202814 : True := ⟨⟩
theorem tw11664552230629568697 : True := ⟨⟩
theorem tw11670292962456681022 : True := ⟨⟩
theorem tw11674758470381429911 : True := ⟨⟩
theorem tw1167774811387141744 : True := ⟨⟩
theorem tw11715189963042771053 : True := ⟨⟩
theorem tw11734085652529622713 : True := ⟨⟩
theorem tw11750670721318543082 : True := ⟨⟩
theorem tw11751457990626701274 : True := ⟨⟩
theorem tw11758934879668117075 : True := ⟨⟩
theorem tw11765639650907697636 : True := ⟨⟩
theorem tw11776422053226453290 : True := ⟨⟩
theorem tw11784055001927039798 : True := ⟨⟩
theorem tw11807130730652233267 : True := ⟨⟩
theorem tw11815456843998573312 : True := ⟨⟩
theorem tw11827204434518203411 : True := ⟨⟩
theorem tw11832316714811090305 : True := ⟨⟩
theorem tw11846603180955129896 : True := ⟨⟩
theorem tw11848789522663161891 : True := ⟨⟩
theorem tw11857671971017519410 : True := ⟨⟩
theorem tw11878068724825894207 : True := ⟨⟩
theorem tw11879613682448947224 : True := ⟨⟩
theorem tw11893061755096915145 : True := ⟨⟩
theorem tw1189849584543165303 : True := ⟨⟩
theorem tw1190149676438205961 : True := ⟨⟩
theorem tw11902425790401386700 : True := ⟨⟩
theorem tw11910640051562404991 : True := ⟨⟩
theorem tw11912315192236669305 : True := ⟨⟩
theorem tw11913768731285426812 : True := ⟨⟩
theorem tw11915910579716288358 : True := ⟨⟩
theorem tw11927876298284503961 : True := ⟨⟩
theorem tw11940588156402027488 : True := ⟨⟩
theorem tw11952952518842557956 : True := ⟨⟩
theorem tw11959132501220333042 : True := ⟨⟩
theorem tw11977030125033539850 : True := ⟨⟩
theorem tw11982744130417020579 : True := ⟨⟩
theorem tw11983209429459946804 : True := ⟨⟩
theorem tw1199380526279084286 : True := ⟨⟩
theorem tw11994917039815560833 : True := ⟨⟩
theorem tw12014943144119160713 : True := ⟨⟩
theorem tw12021188219201562854 : True := ⟨⟩
theorem tw12031403955389173750 : True := ⟨⟩
theorem tw12044502824729849813 : True := ⟨⟩
theorem tw12082032545505758857 : True := ⟨⟩
theorem tw12092052175652835867 : True := ⟨⟩
theorem tw12101836490155343671 : True := ⟨⟩
theorem tw12116473126509127551 : True := ⟨⟩
theorem tw12127554347353953551 : True := ⟨⟩
theorem tw12140495877813671846 : True := ⟨⟩
theorem tw12164032871283449351 : True := ⟨⟩
theorem tw12176516086438804758 : True := ⟨⟩
theorem tw12192437384793669734 : True := ⟨⟩
theorem tw12195446991383753695 : True := ⟨⟩
theorem tw12199628315713410364 : True := ⟨⟩
theorem tw12200550355154747765 : True := ⟨⟩
theorem tw12201216968780110852 : True := ⟨⟩
theorem tw12209956693362461440 : True := ⟨⟩
theorem tw12227448313822996173 : True := ⟨⟩
theorem tw12245992345721807831 : True := ⟨⟩
theorem tw12247591692082566353 : True := ⟨⟩
theorem tw12263958175666689663 : True := ⟨⟩
theorem tw12269178446911218641 : True := ⟨⟩
theorem tw12288505066355488192 : True := ⟨⟩
theorem tw12304030251830124417 : True := ⟨⟩
theorem tw12349772289290728758 : True := ⟨⟩
theorem tw12350459651903451655 : True := ⟨⟩
theorem tw12358712199590642575 : True := ⟨⟩
theorem tw12386374481192637435 : True := ⟨⟩
theorem tw12405275956689726678 : True := ⟨⟩
theorem tw12431770505752037028 : True := ⟨⟩
theorem tw12443270938118424367 : True := ⟨⟩
theorem tw12451100950165386860 : True := ⟨⟩
theorem tw12463392941025125987 : True := ⟨⟩
theorem tw12477625735065876908 : True := ⟨⟩
theorem tw12481746158395206506 : True := ⟨⟩
theorem tw12483800677649341578 : True := ⟨⟩
theorem tw12490108500590836742 : True := ⟨⟩
theorem tw12492704503759982580 : True := ⟨⟩
theorem tw12503872771341427720 : True := ⟨⟩
theorem tw12558323609148210082 : True := ⟨⟩
theorem tw12566466788776800671 : True := ⟨⟩
theorem tw1256920015655123838 : True := ⟨⟩
theorem tw12572833349968916733 : True := ⟨⟩
theorem tw1259381584412961218 : True := ⟨⟩
theorem tw12599670120891573014 : True := ⟨⟩
theorem tw1261138940487301733 : True := ⟨⟩
theorem tw1261791964565442057 : True := ⟨⟩
theorem tw12619676270301771533 : True := ⟨⟩
theorem tw1266193842208372017 : True := ⟨⟩
theorem tw12667539911716787225 : True := ⟨⟩
theorem tw12682254530758723427 : True := ⟨⟩
theorem tw12682632469016403174 : True := ⟨⟩
theorem tw1270722674719294836 : True := ⟨⟩
theorem tw12726155014388600762 : True := ⟨⟩
theorem tw12747056698307629718 : True := ⟨⟩
theorem tw12749171663652687163 : True := ⟨⟩
theorem tw12783851568588377294 : True := ⟨⟩
theorem tw1279050991370800917 : True := ⟨⟩
theorem tw12791586842632891474 : True := ⟨⟩
theorem tw12806394506352698940 : True := ⟨⟩
theorem tw12809474908930850591 : True := ⟨⟩
theorem tw12812337004988121906 : True := ⟨⟩
theorem tw12842350677752881335 : True := ⟨⟩
theorem tw12844759124809766604 : True := ⟨⟩
theorem tw12862481390200346248 : True := ⟨⟩
theorem tw12863906000906642121 : True := ⟨⟩
theorem tw1286570861037469149 : True := ⟨⟩
theorem tw12868520594928266513 : True := ⟨⟩
theorem tw12945869327102554373 : True := ⟨⟩
theorem tw12946920771331182551 : True := ⟨⟩
theorem tw12949849787165660892 : True := ⟨⟩
theorem tw12957234353607143067 : True := ⟨⟩
theorem tw12972797968567076425 : True := ⟨⟩
theorem tw12978330589142149897 : True := ⟨⟩
theorem tw12979479394866189259 : True := ⟨⟩
theorem tw12996325462983062249 : True := ⟨⟩
theorem tw1299935699471164499 : True := ⟨⟩
theorem tw13016641855579864589 : True := ⟨⟩
theorem tw13023755402962554686 : True := ⟨⟩
theorem tw13029304954367342411 : True := ⟨⟩
theorem tw13045291956230455633 : True := ⟨⟩
theorem tw13082252396592956440 : True := ⟨⟩
theorem tw13095192852044638791 : True := ⟨⟩
theorem tw13105718841883826931 : True := ⟨⟩
theorem tw1311584638190207880 : True := ⟨⟩
theorem tw13139482772032247142 : True := ⟨⟩
theorem tw13141337882706198446 : True := ⟨⟩
theorem tw13144090515601981758 : True := ⟨⟩
theorem tw13146726142893191285 : True := ⟨⟩
theorem tw13166218824920549425 : True := ⟨⟩
theorem tw13192590174102365404 : True := ⟨⟩
theorem tw13205855875590784517 : True := ⟨⟩
theorem tw13217732597525719949 : True := ⟨⟩
theorem tw13218288762296649750 : True := ⟨⟩
theorem tw13239904802401495117 : True := ⟨⟩
theorem tw13253434779419422329 : True := ⟨⟩
theorem tw13325432905779068184 : True := ⟨⟩
theorem tw13344460459354937169 : True := ⟨⟩
theorem tw13361336059798796425 : True := ⟨⟩
theorem tw13393524591936758572 : True := ⟨⟩
theorem tw13403593437803993619 : True := ⟨⟩
theorem tw13406102368217079016 : True := ⟨⟩
theorem tw13418691127404715239 : True := ⟨⟩
theorem tw13422555036066877145 : True := ⟨⟩
theorem tw13443865845072081208 : True := ⟨⟩
theorem tw13462664018909987988 : True := ⟨⟩
theorem tw13465300262552748840 : True := ⟨⟩
theorem tw13467134481603071532 : True := ⟨⟩
theorem tw13490871333126383818 : True := ⟨⟩
theorem tw13509774892172116671 : True := ⟨⟩
theorem tw13525572499271601672 : True := ⟨⟩
theorem tw13546186122285214359 : True := ⟨⟩
theorem tw13558685579468526035 : True := ⟨⟩
theorem tw13565851248121733295 : True := ⟨⟩
theorem tw13568883482069520215 : True := ⟨⟩
theorem tw13577234378318756528 : True := ⟨⟩
theorem tw13579742144517794219 : True := ⟨⟩
theorem tw13608391081515348142 : True := ⟨⟩
theorem tw13627224042243082576 : True := ⟨⟩
theorem tw1364231988620281032 : True := ⟨⟩
theorem tw13650541203932841656 : True := ⟨⟩
theorem tw13652787457892639677 : True := ⟨⟩
theorem tw13669521561643210498 : True := ⟨⟩
theorem tw13681431987763668241 : True := ⟨⟩
theorem tw13705527460786731510 : True := ⟨⟩
theorem tw13738425257135957866 : True := ⟨⟩
theorem tw13742430269866819546 : True := ⟨⟩
theorem tw13759995583405993703 : True := ⟨⟩
theorem tw1376885841516646791 : True := ⟨⟩
theorem tw13769030334917282753 : True := ⟨⟩
theorem tw13772917008257674244 : True := ⟨⟩
theorem tw13797987695478919668 : True := ⟨⟩
theorem tw1380978625442941541 : True := ⟨⟩
theorem tw13810370936202872785 : True := ⟨⟩
theorem tw1381255654279183494 : True := ⟨⟩
theorem tw13825103770533428167 : True := ⟨⟩
theorem tw13836748901347136872 : True := ⟨⟩
theorem tw13865740829553026909 : True := ⟨⟩
theorem tw13875407309845330991 : True := ⟨⟩
theorem tw13880817506899382558 : True := ⟨⟩
theorem tw13905917727745459311 : True := ⟨⟩
theorem tw13915221571187092172 : True := ⟨⟩
theorem tw13929936462260831464 : True := ⟨⟩
theorem tw13952799448644948874 : True := ⟨⟩
theorem tw13988221172517965311 : True := ⟨⟩
theorem tw13998714347981284519 : True := ⟨⟩
theorem tw14010317779014311669 : True := ⟨⟩
theorem tw14036073715788350988 : True := ⟨⟩
theorem tw14052435209286694886 : True := ⟨⟩
theorem tw14128114899117899248 : True := ⟨⟩
theorem tw14138376318953906092 : True := ⟨⟩
theorem tw14145013630567910063 : True := ⟨⟩
theorem tw14146260344126963888 : True := ⟨⟩
theorem tw14150190430996414065 : True := ⟨⟩
theorem tw1415938297934388368 : True := ⟨⟩
theorem tw14161659601668405396 : True := ⟨⟩
theorem tw14170209067510658684 : True := ⟨⟩
theorem tw14176120131621321398 : True := ⟨⟩
theorem tw14189833208734743431 : True := ⟨⟩
theorem tw14194377662923060101 : True := ⟨⟩
theorem tw14204191307250282227 : True := ⟨⟩
theorem tw14207299134900097085 : True := ⟨⟩
theorem tw14242102167247926179 : True := ⟨⟩
theorem tw14252463235570117731 : True := ⟨⟩
theorem tw14254660438108985026 : True := ⟨⟩
theorem tw14280614108210054223 : True := ⟨⟩
theorem tw14281838336851388604 : True := ⟨⟩
theorem tw14290429215767929304 : True := ⟨⟩
theorem tw14295452944397215089 : True := ⟨⟩
theorem tw1429657304218527142 : True := ⟨⟩
theorem tw14311406649430461848 : True := ⟨⟩
theorem tw14319134166841299984 : True := ⟨⟩
theorem tw1433356872152765920 : True := ⟨⟩
theorem tw14343879438007530058 : True := ⟨⟩
theorem tw14362844786864941046 : True := ⟨⟩
theorem tw14367265361528875125 : True := ⟨⟩
theorem tw14383384505260691744 : True := ⟨⟩
theorem tw14411484064949423815 : True := ⟨⟩
theorem tw14411728046756009217 : True := ⟨⟩
theorem tw14418099613770140681 : True := ⟨⟩
theorem tw14442134435390439353 : True := ⟨⟩
theorem tw14455177727425888638 : True := ⟨⟩
theorem tw14469976330962519559 : True := ⟨⟩
theorem tw1447634865105156646 : True := ⟨⟩
theorem tw14525409914595967980 : True := ⟨⟩
theorem tw14534315315940152981 : True := ⟨⟩
theorem tw1454209132759308965 : True := ⟨⟩
theorem tw14558808003701164192 : True := ⟨⟩
theorem tw1456124335938074626 : True := ⟨⟩
theorem tw14566180632465282722 : True := ⟨⟩
theorem tw14577976968632240088 : True := ⟨⟩
theorem tw14581433571006208482 : True := ⟨⟩
theorem tw1458174022923181807 : True := ⟨⟩
theorem tw14594609685340388846 : True := ⟨⟩
theorem tw14630375825256661811 : True := ⟨⟩
theorem tw14634783991513443128 : True := ⟨⟩
theorem tw14661799716274285626 : True := ⟨⟩
theorem tw14696571898784087329 : True := ⟨⟩
theorem tw14703948372520098865 : True := ⟨⟩
theorem tw14743616836047326455 : True := ⟨⟩
theorem tw14748151745459686905 : True := ⟨⟩
theorem tw14754838220586716941 : True := ⟨⟩
theorem tw1476571090039169820 : True := ⟨⟩
theorem tw14770922652044473661 : True := ⟨⟩
theorem tw14771890821122382768 : True := ⟨⟩
theorem tw14774061641403853742 : True := ⟨⟩
theorem tw14785770906121142510 : True := ⟨⟩
theorem tw14787975780715023857 : True := ⟨⟩
theorem tw1480589947315480514 : True := ⟨⟩
theorem tw14826191995167942413 : True := ⟨⟩
theorem tw14827611097921045225 : True := ⟨⟩
theorem tw14842553978320391311 : True := ⟨⟩
theorem tw14843932521221968749 : True := ⟨⟩
theorem tw14850298199407177707 : True := ⟨⟩
theorem tw14860546640630193378 : True := ⟨⟩
theorem tw14860577663527801897 : True := ⟨⟩
theorem tw14872262051900590134 : True := ⟨⟩
theorem tw14874001021857688225 : True := ⟨⟩
theorem tw14883722091141234992 : True := ⟨⟩
theorem tw14889519887058333776 : True := ⟨⟩
theorem tw14898422612600400839 : True := ⟨⟩
theorem tw14908723673531161987 : True := ⟨⟩
theorem tw14924712989873493212 : True := ⟨⟩
theorem tw1494587877672395719 : True := ⟨⟩
theorem tw1494888446917110186 : True := ⟨⟩
theorem tw1496134948099420060 : True := ⟨⟩
theorem tw14963813971189870143 : True := ⟨⟩
theorem tw14995873357514608503 : True := ⟨⟩
theorem tw15000289129923809989 : True := ⟨⟩
theorem tw15030752941026089434 : True := ⟨⟩
theorem tw1503403040412477279 : True := ⟨⟩
theorem tw15111076077222330305 : True := ⟨⟩
theorem tw15114093972543112059 : True := ⟨⟩
theorem tw15147253581781367208 : True := ⟨⟩
theorem tw15160156362286848725 : True := ⟨⟩
theorem tw1517119740240178111 : True := ⟨⟩
theorem tw15173413089107121955 : True := ⟨⟩
theorem tw15183729690316765607 : True := ⟨⟩
theorem tw15212696122227948828 : True := ⟨⟩
theorem tw15218526307154832355 : True := ⟨⟩
theorem tw15221589134590469335 : True := ⟨⟩
theorem tw152250937536480880 : True := ⟨⟩
theorem tw15232665151334429641 : True := ⟨⟩
theorem tw15235125954646330117 : True := ⟨⟩
theorem tw15243178021959532219 : True := ⟨⟩
theorem tw15276789195049169552 : True := ⟨⟩
theorem tw15289415106891965336 : True := ⟨⟩
theorem tw15299264231572859625 : True := ⟨⟩
theorem tw15309383169479203358 : True := ⟨⟩
theorem tw15343115888198259038 : True := ⟨⟩
theorem tw15345591767448721777 : True := ⟨⟩
theorem tw15368286318390133707 : True := ⟨⟩
theorem tw15417115999458111672 : True := ⟨⟩
theorem tw15445754848751185502 : True := ⟨⟩
theorem tw15462364658246741603 : True := ⟨⟩
theorem tw15466643970493115577 : True := ⟨⟩
theorem tw15471305204761348970 : True := ⟨⟩
theorem tw15480071856344793076 : True := ⟨⟩
theorem tw1550462136604066466 : True := ⟨⟩
theorem tw15532271857372632025 : True := ⟨⟩
theorem tw15538798172902952721 : True := ⟨⟩
theorem tw15544950549123902094 : True := ⟨⟩
theorem tw15563969235001155646 : True := ⟨⟩
theorem tw15585163650799982172 : True := ⟨⟩
theorem tw15597099934449149107 : True := ⟨⟩
theorem tw15616108766589581502 : True := ⟨⟩
theorem tw15623538696464535760 : True := ⟨⟩
theorem tw15635003422890260754 : True := ⟨⟩
theorem tw15637036462263953987 : True := ⟨⟩
theorem tw15672426781827496866 : True := ⟨⟩
theorem tw1567487855172610963 : True := ⟨⟩
theorem tw15677529637332707448 : True := ⟨⟩
theorem tw15689635995862461281 : True := ⟨⟩
theorem tw15727734695668527972 : True := ⟨⟩
theorem tw15729604802814324979 : True := ⟨⟩
theorem tw15732926430433644982 : True := ⟨⟩
theorem tw15741340511576674975 : True := ⟨⟩
theorem tw15745558068251858392 : True := ⟨⟩
theorem tw15791538069687756695 : True := ⟨⟩
theorem tw15810094178526557938 : True := ⟨⟩
theorem tw15879461069666533410 : True := ⟨⟩
theorem tw15892684888561574590 : True := ⟨⟩
theorem tw1590584764280200591 : True := ⟨⟩
theorem tw15919036545399403073 : True := ⟨⟩
theorem tw15927976573415226410 : True := ⟨⟩
theorem tw15928882269868119103 : True := ⟨⟩
theorem tw15950654928457598393 : True := ⟨⟩
theorem tw15955365105718871605 : True := ⟨⟩
theorem tw15981979478152242570 : True := ⟨⟩
theorem tw16013452685134805509 : True := ⟨⟩
theorem tw16025680434875664204 : True := ⟨⟩
theorem tw16028286087724293497 : True := ⟨⟩
theorem tw16049441803539651342 : True := ⟨⟩
theorem tw16051907110233888648 : True := ⟨⟩
theorem tw16085736749214131239 : True := ⟨⟩
theorem tw16091810236073309709 : True := ⟨⟩
theorem tw16127448326832712202 : True := ⟨⟩
theorem tw16128656763067611577 : True := ⟨⟩
theorem tw16142791633565724946 : True := ⟨⟩
theorem tw16150360699803865431 : True := ⟨⟩
theorem tw16163699677423413949 : True := ⟨⟩
theorem tw16177192221136117376 : True := ⟨⟩
theorem tw16177827023778409459 : True := ⟨⟩
theorem tw1617838721645859501 : True := ⟨⟩
theorem tw16200485294714759000 : True := ⟨⟩
theorem tw16213180302247160613 : True := ⟨⟩
theorem tw16218589078623431722 : True := ⟨⟩
theorem tw16250735091633608754 : True := ⟨⟩
theorem tw16260248736514145123 : True := ⟨⟩
theorem tw16260855330065085745 : True := ⟨⟩
theorem tw16283121134025599472 : True := ⟨⟩
theorem tw16297294501173543233 : True := ⟨⟩
theorem tw16348219163339758595 : True := ⟨⟩
theorem tw16354553557624609632 : True := ⟨⟩
theorem tw16360089500885891312 : True := ⟨⟩
theorem tw16399950876527022149 : True := ⟨⟩
theorem tw16406235123149677361 : True := ⟨⟩
theorem tw16427908497282934875 : True := ⟨⟩
theorem tw16434260719577191472 : True := ⟨⟩
theorem tw16443209126067635277 : True := ⟨⟩
theorem tw1645950883855642703 : True := ⟨⟩
theorem tw1646295506349750229 : True := ⟨⟩
theorem tw16468457992458870632 : True := ⟨⟩
theorem tw16473315351032626127 : True := ⟨⟩
theorem tw16474053898546501079 : True := ⟨⟩
theorem tw16479466415906316913 : True := ⟨⟩
theorem tw16493555245407184057 : True := ⟨⟩
theorem tw16503593963668501276 : True := ⟨⟩
theorem tw16506097352194632023 : True := ⟨⟩
theorem tw16510596647796427243 : True := ⟨⟩
theorem tw16522870355679647321 : True := ⟨⟩
theorem tw16526071116050116820 : True := ⟨⟩
theorem tw16536845064214698358 : True := ⟨⟩
theorem tw16552784225457760863 : True := ⟨⟩
theorem tw16560571962218401759 : True := ⟨⟩
theorem tw16578779453952506911 : True := ⟨⟩
theorem tw16586210683883694294 : True := ⟨⟩
theorem tw16590289223226319832 : True := ⟨⟩
theorem tw16600187464343208351 : True := ⟨⟩
theorem tw16610357059121726152 : True := ⟨⟩
theorem tw16618110948908066412 : True := ⟨⟩
theorem tw1662797831368255781 : True := ⟨⟩
theorem tw1665215224455544029 : True := ⟨⟩
theorem tw16654398473643691400 : True := ⟨⟩
theorem tw16659256121636383015 : True := ⟨⟩
theorem tw16668378270235294578 : True := ⟨⟩
theorem tw16677672038835830561 : True := ⟨⟩
theorem tw1671269220869506263 : True := ⟨⟩
theorem tw16716171234057563595 : True := ⟨⟩
theorem tw16719845391658309159 : True := ⟨⟩
theorem tw16742768539259284675 : True := ⟨⟩
theorem tw16774147274064169778 : True := ⟨⟩
theorem tw16792612803775386211 : True := ⟨⟩
theorem tw16853515981168281661 : True := ⟨⟩
theorem tw16866255087565843058 : True := ⟨⟩
theorem tw16871594104339438554 : True := ⟨⟩
theorem tw16917429580358949172 : True := ⟨⟩
theorem tw16927715727985240649 : True := ⟨⟩
theorem tw16929347978932573901 : True := ⟨⟩
theorem tw16932095853297018103 : True := ⟨⟩
theorem tw16933521681170243884 : True := ⟨⟩
theorem tw16949058804739135769 : True := ⟨⟩
theorem tw16959921632742516735 : True := ⟨⟩
theorem tw16993510635178189574 : True := ⟨⟩
theorem tw17024130522920453812 : True := ⟨⟩
theorem tw17051436235056568084 : True := ⟨⟩
theorem tw17057133734321207591 : True := ⟨⟩
theorem tw17068584692051799264 : True := ⟨⟩
theorem tw17075171260642489300 : True := ⟨⟩
theorem tw17089218448843553319 : True := ⟨⟩
theorem tw17105723849032580233 : True := ⟨⟩
theorem tw17108965994491136216 : True := ⟨⟩
theorem tw17115935362439483456 : True := ⟨⟩
theorem tw17128936785370695711 : True := ⟨⟩
theorem tw17136239279806093299 : True := ⟨⟩
theorem tw17148569114310749875 : True := ⟨⟩
theorem tw17152635276675089391 : True := ⟨⟩
theorem tw17169511001429590000 : True := ⟨⟩
theorem tw17172930777344929981 : True := ⟨⟩
theorem tw17188940757165021559 : True := ⟨⟩
theorem tw17207926602167837096 : True := ⟨⟩
theorem tw17213308964433280716 : True := ⟨⟩
theorem tw17331465668124662903 : True := ⟨⟩
theorem tw17334619380489033704 : True := ⟨⟩
theorem tw17335193448311512664 : True := ⟨⟩
theorem tw17346087975796185261 : True := ⟨⟩
theorem tw17361410142370630226 : True := ⟨⟩
theorem tw17374299458141838533 : True := ⟨⟩
theorem tw17379375643546999633 : True := ⟨⟩
theorem tw17401699720805920581 : True := ⟨⟩
theorem tw17488329532819025909 : True := ⟨⟩
theorem tw17493089188266362519 : True := ⟨⟩
theorem tw175040590405108599 : True := ⟨⟩
theorem tw17505117620022480717 : True := ⟨⟩
theorem tw17557687384818942715 : True := ⟨⟩
theorem tw17567452138589245110 : True := ⟨⟩
theorem tw17581748181088530156 : True := ⟨⟩
theorem tw1762386318068787946 : True := ⟨⟩
theorem tw17630766324226089508 : True := ⟨⟩
theorem tw17642925155131852096 : True := ⟨⟩
theorem tw17651194758401332908 : True := ⟨⟩
theorem tw17651564058029538739 : True := ⟨⟩
theorem tw17659097604950016698 : True := ⟨⟩
theorem tw17671606695714314883 : True := ⟨⟩
theorem tw17672424748542580654 : True := ⟨⟩
theorem tw17682645833115681230 : True := ⟨⟩
theorem tw17703921280527190690 : True := ⟨⟩
theorem tw1771013558043686919 : True := ⟨⟩
theorem tw1771076004075163074 : True := ⟨⟩
theorem tw17721108341852848303 : True := ⟨⟩
theorem tw17725755344205882000 : True := ⟨⟩
theorem tw17732877472588451059 : True := ⟨⟩
theorem tw17734690052653452298 : True := ⟨⟩
theorem tw17735915476236035739 : True := ⟨⟩
theorem tw17741527673115495833 : True := ⟨⟩
theorem tw17753136161530015303 : True := ⟨⟩
theorem tw17755079628717120034 : True := ⟨⟩
theorem tw17758786696154807467 : True := ⟨⟩
theorem tw17762256770671914290 : True := ⟨⟩
theorem tw17771051374583081296 : True := ⟨⟩
theorem tw17796679276970171426 : True := ⟨⟩
theorem tw17798549646486544924 : True := ⟨⟩
theorem tw17800825872312914714 : True := ⟨⟩
theorem tw17808770815832549193 : True := ⟨⟩
theorem tw17810305690818884312 : True := ⟨⟩
theorem tw17811227671007549972 : True := ⟨⟩
theorem tw17821436071159046321 : True := ⟨⟩
theorem tw17821456102733380446 : True := ⟨⟩
theorem tw17856900804709593783 : True := ⟨⟩
theorem tw17863407211958560694 : True := ⟨⟩
theorem tw17868973012179796206 : True := ⟨⟩
theorem tw17885996815242670702 : True := ⟨⟩
theorem tw17887718914089640891 : True := ⟨⟩
theorem tw17928657079672773036 : True := ⟨⟩
theorem tw17963452629923978584 : True := ⟨⟩
theorem tw17989955420495830678 : True := ⟨⟩
theorem tw17990642274986894744 : True := ⟨⟩
theorem tw18017436600226737313 : True := ⟨⟩
theorem tw18024236198170291194 : True := ⟨⟩
theorem tw18037519199964297143 : True := ⟨⟩
theorem tw18075895496298948660 : True := ⟨⟩
theorem tw18089476730568393773 : True := ⟨⟩
theorem tw18108411231057375868 : True := ⟨⟩
theorem tw18151303010929780423 : True := ⟨⟩
theorem tw1816733639872119856 : True := ⟨⟩
theorem tw18173119368652372162 : True := ⟨⟩
theorem tw18181459534305436522 : True := ⟨⟩
theorem tw18183095236358358992 : True := ⟨⟩
theorem tw18207911181831876757 : True := ⟨⟩
theorem tw18235699687725533636 : True := ⟨⟩
theorem tw18257719913428771474 : True := ⟨⟩
theorem tw18264777794494970520 : True := ⟨⟩
theorem tw1830594951664595758 : True := ⟨⟩
theorem tw18315854244565484854 : True := ⟨⟩
theorem tw18340325064706339418 : True := ⟨⟩
theorem tw18391559958819516894 : True := ⟨⟩
theorem tw18403173024517130408 : True := ⟨⟩
theorem tw18416783923361032007 : True := ⟨⟩
theorem tw18420746647563209857 : True := ⟨⟩
theorem tw18425480999828030028 : True := ⟨⟩
theorem tw18426591805776360890 : True := ⟨⟩
theorem tw18440339763339231785 : True := ⟨⟩
theorem tw18440418884010209954 : True := ⟨⟩
theorem tw1882676911681881509 : True := ⟨⟩
theorem tw1907393735964383840 : True := ⟨⟩
theorem tw1909802483206549952 : True := ⟨⟩
theorem tw191490408472666496 : True := ⟨⟩
theorem tw1918687568005193843 : True := ⟨⟩
theorem tw1919133756039326530 : True := ⟨⟩
theorem tw1946574963526386701 : True := ⟨⟩
theorem tw1968897829998239906 : True := ⟨⟩
theorem tw1985365823914174026 : True := ⟨⟩
theorem tw2011083257458950123 : True := ⟨⟩
theorem tw2017483839651879820 : True := ⟨⟩
theorem tw2026387176384410671 : True := ⟨⟩
theorem tw2028850030027838194 : True := ⟨⟩
theorem tw2070239283543979959 : True := ⟨⟩
theorem tw2076164508250332129 : True := ⟨⟩
theorem tw2085858751390962043 : True := ⟨⟩
theorem tw2093666061030466589 : True := ⟨⟩
theorem tw2102685217520069614 : True := ⟨⟩
theorem tw2112090036796806992 : True := ⟨⟩
theorem tw2114431727096257400 : True := ⟨⟩
theorem tw2132569263568639910 : True := ⟨⟩
theorem tw2150212209260275673 : True := ⟨⟩
theorem tw2175210994463462470 : True := ⟨⟩
theorem tw2236161584593135513 : True := ⟨⟩
theorem tw224902868017301171 : True := ⟨⟩
theorem tw2254435973727849421 : True := ⟨⟩
theorem tw2266009617520659979 : True := ⟨⟩
theorem tw2268408915362283348 : True := ⟨⟩
theorem tw22944897461248836 : True := ⟨⟩
theorem tw2317323233626216202 : True := ⟨⟩
theorem tw2324014601266576735 : True := ⟨⟩
theorem tw2332134359513624250 : True := ⟨⟩
theorem tw2365088948841043279 : True := ⟨⟩
theorem tw2368504761083978926 : True := ⟨⟩
theorem tw2371142683125560935 : True := ⟨⟩
theorem tw2375472839412931331 : True := ⟨⟩
theorem tw2417239796147247631 : True := ⟨⟩
theorem tw2442126920693537723 : True := ⟨⟩
theorem tw2443679099600971693 : True := ⟨⟩
theorem tw2461467855728635159 : True := ⟨⟩
theorem tw2461925918761807854 : True := ⟨⟩
theorem tw2496652703995217477 : True := ⟨⟩
theorem tw2498616320270318861 : True := ⟨⟩
theorem tw2500197003092310314 : True := ⟨⟩
theorem tw2523915487350312552 : True := ⟨⟩
theorem tw2543708448884566285 : True := ⟨⟩
theorem tw2577519537811309732 : True := ⟨⟩
theorem tw2583021570397135437 : True := ⟨⟩
theorem tw2587481505490421466 : True := ⟨⟩
theorem tw2597999206746104090 : True := ⟨⟩
theorem tw2601865084765162585 : True := ⟨⟩
theorem tw2646774991499873072 : True := ⟨⟩
theorem tw2653621486667600843 : True := ⟨⟩
theorem tw26575860018800758 : True := ⟨⟩
theorem tw265947182319263726 : True := ⟨⟩
theorem tw2661661362710261950 : True := ⟨⟩
theorem tw2683767367995172587 : True := ⟨⟩
theorem tw2693694955425778005 : True := ⟨⟩
theorem tw2714518888730594162 : True := ⟨⟩
theorem tw2732286023183955171 : True := ⟨⟩
theorem tw2733093475426617450 : True := ⟨⟩
theorem tw2737948378440521823 : True := ⟨⟩
theorem tw2744620892144496606 : True := ⟨⟩
theorem tw2764659342322485610 : True := ⟨⟩
theorem tw2772111626952699280 : True := ⟨⟩
theorem tw2800681316644473043 : True := ⟨⟩
theorem tw2802330935518490119 : True := ⟨⟩
theorem tw2811109472151209932 : True := ⟨⟩
theorem tw2814047482283692521 : True := ⟨⟩
theorem tw2828661613760440424 : True := ⟨⟩
theorem tw2832266807535893551 : True := ⟨⟩
theorem tw2858566528325026409 : True := ⟨⟩
theorem tw2860509138950691704 : True := ⟨⟩
theorem tw2885556316122685071 : True := ⟨⟩
theorem tw2887322148925823866 : True := ⟨⟩
theorem tw2887958866903325399 : True := ⟨⟩
theorem tw2888086868925295265 : True := ⟨⟩
theorem tw2892953772208037570 : True := ⟨⟩
theorem tw2915610294399727708 : True := ⟨⟩
theorem tw293315148089583682 : True := ⟨⟩
theorem tw2950116434499453417 : True := ⟨⟩
theorem tw2992796643361555308 : True := ⟨⟩
theorem tw2997881692418614276 : True := ⟨⟩
theorem tw3018248764650194253 : True := ⟨⟩
theorem tw3027216511499375627 : True := ⟨⟩
theorem tw3054597378306480467 : True := ⟨⟩
theorem tw3055449779054161810 : True := ⟨⟩
theorem tw307285038492549845 : True := ⟨⟩
theorem tw3075247239333212852 : True := ⟨⟩
theorem tw3085322323922540518 : True := ⟨⟩
theorem tw3086703801195530449 : True := ⟨⟩
theorem tw3119793365772874621 : True := ⟨⟩
theorem tw3123462159673505055 : True := ⟨⟩
theorem tw3129092308379028365 : True := ⟨⟩
theorem tw3159218623198193440 : True := ⟨⟩
theorem tw3185581799722428198 : True := ⟨⟩
theorem tw3204312508263643901 : True := ⟨⟩
theorem tw3206406205123562587 : True := ⟨⟩
theorem tw3215362303900034773 : True := ⟨⟩
theorem tw3270112913716496757 : True := ⟨⟩
theorem tw3278464198423676634 : True := ⟨⟩
theorem tw3312950486662269643 : True := ⟨⟩
theorem tw3320107659411928889 : True := ⟨⟩
theorem tw3350870243654781939 : True := ⟨⟩
theorem tw3421305572931772608 : True := ⟨⟩
theorem tw3421726937080107792 : True := ⟨⟩
theorem tw3458096930066291972 : True := ⟨⟩
theorem tw348967466704376535 : True := ⟨⟩
theorem tw3494175830530594699 : True := ⟨⟩
theorem tw3498712828475657063 : True := ⟨⟩
theorem tw3521377755137541808 : True := ⟨⟩
theorem tw3530251461782974795 : True := ⟨⟩
theorem tw3539339365352121998 : True := ⟨⟩
theorem tw3574226441904106093 : True := ⟨⟩
theorem tw3624762690149158847 : True := ⟨⟩
theorem tw362590613802551412 : True := ⟨⟩
theorem tw3646428807728294863 : True := ⟨⟩
theorem tw3674156319703528775 : True := ⟨⟩
theorem tw3683077897369762717 : True := ⟨⟩
theorem tw3685171636038014569 : True := ⟨⟩
theorem tw3704258326860781330 : True := ⟨⟩
theorem tw3728763270543036367 : True := ⟨⟩
theorem tw3760639696027638824 : True := ⟨⟩
theorem tw3786854924794932560 : True := ⟨⟩
theorem tw3795340703035623699 : True := ⟨⟩
theorem tw3797705438269596921 : True := ⟨⟩
theorem tw3812094787752628718 : True := ⟨⟩
theorem tw3843005374865765706 : True := ⟨⟩
theorem tw3852884922891945022 : True := ⟨⟩
theorem tw387934473561237776 : True := ⟨⟩
theorem tw3891455526006857403 : True := ⟨⟩
theorem tw3917461442974804717 : True := ⟨⟩
theorem tw3925093156760737801 : True := ⟨⟩
theorem tw3951213933799974497 : True := ⟨⟩
theorem tw3954459231902067891 : True := ⟨⟩
theorem tw3967856730561969279 : True := ⟨⟩
theorem tw3982826319649438683 : True := ⟨⟩
theorem tw4007217883309072503 : True := ⟨⟩
theorem tw4010148435305749349 : True := ⟨⟩
theorem tw4019509481689220778 : True := ⟨⟩
theorem tw4026703101848376420 : True := ⟨⟩
theorem tw4027274133986251453 : True := ⟨⟩
theorem tw404344464554290147 : True := ⟨⟩
theorem tw4043750813493925671 : True := ⟨⟩
theorem tw406283363121583774 : True := ⟨⟩
theorem tw4111176288507892862 : True := ⟨⟩
theorem tw4135428942031210456 : True := ⟨⟩
theorem tw4135753905388083766 : True := ⟨⟩
theorem tw4139026329194020968 : True := ⟨⟩
theorem tw4140856202252521746 : True := ⟨⟩
theorem tw4155115565051440932 : True := ⟨⟩
theorem tw4170749179787929718 : True := ⟨⟩
theorem tw4174868064023158630 : True := ⟨⟩
theorem tw4183208252170927286 : True := ⟨⟩
theorem tw419793913882969211 : True := ⟨⟩
theorem tw4212396358401106430 : True := ⟨⟩
theorem tw4215142872515935067 : True := ⟨⟩
theorem tw423386807291918032 : True := ⟨⟩
theorem tw4236637316341960193 : True := ⟨⟩
theorem tw427684276654208435 : True := ⟨⟩
theorem tw4280805867843771635 : True := ⟨⟩
theorem tw4292733766354092952 : True := ⟨⟩
theorem tw4293077423805346806 : True := ⟨⟩
theorem tw4324112848939407298 : True := ⟨⟩
theorem tw4328039952023730500 : True := ⟨⟩
theorem tw4331744307947286870 : True := ⟨⟩
theorem tw4334934106471656756 : True := ⟨⟩
theorem tw4340047373871643699 : True := ⟨⟩
theorem tw4354177598626490288 : True := ⟨⟩
theorem tw439165112048304854 : True := ⟨⟩
theorem tw4402059832678251257 : True := ⟨⟩
theorem tw44029731406536116 : True := ⟨⟩
theorem tw4419976741539666266 : True := ⟨⟩
theorem tw446013954513119604 : True := ⟨⟩
theorem tw4461523486766785901 : True := ⟨⟩
theorem tw4470903463118952912 : True := ⟨⟩
theorem tw447301148068827473 : True := ⟨⟩
theorem tw4479290380768045479 : True := ⟨⟩
theorem tw4493408376985592176 : True := ⟨⟩
theorem tw4499111987299925845 : True := ⟨⟩
theorem tw4522189594802832481 : True := ⟨⟩
theorem tw4565847644715334241 : True := ⟨⟩
theorem tw4572925723522525850 : True := ⟨⟩
theorem tw4598977891108159884 : True := ⟨⟩
theorem tw4605659447877369497 : True := ⟨⟩
theorem tw4608202756223961362 : True := ⟨⟩
theorem tw4617290554598038599 : True := ⟨⟩
theorem tw4623973141596245348 : True := ⟨⟩
theorem tw4631641923256590570 : True := ⟨⟩
theorem tw4638587732807573825 : True := ⟨⟩
theorem tw4639396182521917850 : True := ⟨⟩
theorem tw4640438215931270736 : True := ⟨⟩
theorem tw4644383109730662189 : True := ⟨⟩
theorem tw4649201181071504547 : True := ⟨⟩
theorem tw4649224450759281197 : True := ⟨⟩
theorem tw4660263198257610160 : True := ⟨⟩
theorem tw4671187664572333832 : True := ⟨⟩
theorem tw4677826060472559326 : True := ⟨⟩
theorem tw4691709546548246116 : True := ⟨⟩
theorem tw4699168055676532109 : True := ⟨⟩
theorem tw470743737404134121 : True := ⟨⟩
theorem tw4715679953274489043 : True := ⟨⟩
theorem tw4753502060543050189 : True := ⟨⟩
theorem tw4769423052997520618 : True := ⟨⟩
theorem tw480443468601247125 : True := ⟨⟩
theorem tw4807878098615110169 : True := ⟨⟩
theorem tw4824361603377554822 : True := ⟨⟩
theorem tw4856834824998600365 : True := ⟨⟩
theorem tw4922672658582013088 : True := ⟨⟩
theorem tw4926808858454071795 : True := ⟨⟩
theorem tw4935559917878673185 : True := ⟨⟩
theorem tw4943874637667526383 : True := ⟨⟩
theorem tw494832675551648755 : True := ⟨⟩
theorem tw4960049605965436102 : True := ⟨⟩
theorem tw4961882463931974252 : True := ⟨⟩
theorem tw4971741773422740327 : True := ⟨⟩
theorem tw4972642248736483640 : True := ⟨⟩
theorem tw5026903996613711414 : True := ⟨⟩
theorem tw5027876820883716894 : True := ⟨⟩
theorem tw5034367444281432907 : True := ⟨⟩
theorem tw5059313779892882581 : True := ⟨⟩
theorem tw5075868867736424536 : True := ⟨⟩
theorem tw5077444888307196765 : True := ⟨⟩
theorem tw5116186212845847372 : True := ⟨⟩
theorem tw5121412065778414241 : True := ⟨⟩
theorem tw5125987998973169740 : True := ⟨⟩
theorem tw5134338049016291231 : True := ⟨⟩
theorem tw5140580495072614211 : True := ⟨⟩
theorem tw5149647478752326494 : True := ⟨⟩
theorem tw5164336791891477212 : True := ⟨⟩
theorem tw5169002875141646214 : True := ⟨⟩
theorem tw5210516612614172448 : True := ⟨⟩
theorem tw5212094846504567016 : True := ⟨⟩
theorem tw5229488146508589806 : True := ⟨⟩
theorem tw5230234521978738226 : True := ⟨⟩
theorem tw5241111265968832821 : True := ⟨⟩
theorem tw5241634445527235420 : True := ⟨⟩
theorem tw5247180645440884105 : True := ⟨⟩
theorem tw5267225130168312973 : True := ⟨⟩
theorem tw5299388245302499439 : True := ⟨⟩
theorem tw5303882286802505687 : True := ⟨⟩
theorem tw5306076463120387019 : True := ⟨⟩
theorem tw5333237581475265761 : True := ⟨⟩
theorem tw536147472829637599 : True := ⟨⟩
theorem tw5368006755099977049 : True := ⟨⟩
theorem tw5377406778622346120 : True := ⟨⟩
theorem tw5377472447003590421 : True := ⟨⟩
theorem tw5405392869138952218 : True := ⟨⟩
theorem tw5412581350761694305 : True := ⟨⟩
theorem tw5447491997361039504 : True := ⟨⟩
theorem tw5456813858781910739 : True := ⟨⟩
theorem tw5462849890086031466 : True := ⟨⟩
theorem tw5464593921381058025 : True := ⟨⟩
theorem tw5492937783201807601 : True := ⟨⟩
theorem tw5501101090543620329 : True := ⟨⟩
theorem tw550829659697677876 : True := ⟨⟩
theorem tw5508532920759343411 : True := ⟨⟩
theorem tw553678475780380819 : True := ⟨⟩
theorem tw5541723953225077879 : True := ⟨⟩
theorem tw5542384667464750343 : True := ⟨⟩
theorem tw5547500650982815111 : True := ⟨⟩
theorem tw5573277842309179933 : True := ⟨⟩
theorem tw5583259159178497336 : True := ⟨⟩
theorem tw5612500503075450276 : True := ⟨⟩
theorem tw5653509879170435617 : True := ⟨⟩
theorem tw5658185497973507234 : True := ⟨⟩
theorem tw5666802717656250580 : True := ⟨⟩
theorem tw5677913346965329600 : True := ⟨⟩
theorem tw5680739920604646906 : True := ⟨⟩
theorem tw5681834439120334349 : True := ⟨⟩
theorem tw5692195597439360758 : True := ⟨⟩
theorem tw5722156749303410037 : True := ⟨⟩
theorem tw5728185386504230985 : True := ⟨⟩
theorem tw5729860161178430643 : True := ⟨⟩
theorem tw574866244994423671 : True := ⟨⟩
theorem tw5752027050598990644 : True := ⟨⟩
theorem tw5771668458969542629 : True := ⟨⟩
theorem tw5794858040369449239 : True := ⟨⟩
theorem tw5810772846940418062 : True := ⟨⟩
theorem tw5852728384966971757 : True := ⟨⟩
theorem tw58634366387162011 : True := ⟨⟩
theorem tw5867744066139881772 : True := ⟨⟩
theorem tw5870180824667807317 : True := ⟨⟩
theorem tw5873258225055269576 : True := ⟨⟩
theorem tw58778882737569971 : True := ⟨⟩
theorem tw5885039240609947994 : True := ⟨⟩
theorem tw5932503686651879072 : True := ⟨⟩
theorem tw5939215416416122938 : True := ⟨⟩
theorem tw5959559940487138382 : True := ⟨⟩
theorem tw5975656171398356877 : True := ⟨⟩
theorem tw5993664298491717614 : True := ⟨⟩
theorem tw6009374485072345877 : True := ⟨⟩
theorem tw6023031737176255078 : True := ⟨⟩
theorem tw6030959531591922840 : True := ⟨⟩
theorem tw6034994181537180104 : True := ⟨⟩
theorem tw6035507361617478855 : True := ⟨⟩
theorem tw6039055164378295695 : True := ⟨⟩
theorem tw6047335839897574361 : True := ⟨⟩
theorem tw6071559571755188288 : True := ⟨⟩
theorem tw607225439768870687 : True := ⟨⟩
theorem tw6077072998180152799 : True := ⟨⟩
theorem tw6094051198206467920 : True := ⟨⟩
theorem tw6104975592430779618 : True := ⟨⟩
theorem tw6105895894421981898 : True := ⟨⟩
theorem tw6142609110835499977 : True := ⟨⟩
theorem tw6165213602025592011 : True := ⟨⟩
theorem tw6187272253462288055 : True := ⟨⟩
theorem tw6197852965803387314 : True := ⟨⟩
theorem tw6199456316170847359 : True := ⟨⟩
theorem tw623321812274121831 : True := ⟨⟩
theorem tw6237077433064714434 : True := ⟨⟩
theorem tw6273765833405899210 : True := ⟨⟩
theorem tw6277754106949673312 : True := ⟨⟩
theorem tw6317819972597499510 : True := ⟨⟩
theorem tw6332569643945604797 : True := ⟨⟩
theorem tw6356164927153419976 : True := ⟨⟩
theorem tw6386349652228982154 : True := ⟨⟩
theorem tw6387765809697380671 : True := ⟨⟩
theorem tw6389370101196688928 : True := ⟨⟩
theorem tw639343726315507133 : True := ⟨⟩
theorem tw63935204521456360 : True := ⟨⟩
theorem tw6405158456708143079 : True := ⟨⟩
theorem tw6407018352808590543 : True := ⟨⟩
theorem tw6418563310689889697 : True := ⟨⟩
theorem tw6422562543299004346 : True := ⟨⟩
theorem tw6448160783278274896 : True := ⟨⟩
theorem tw6464805167820720638 : True := ⟨⟩
theorem tw6473056668773228353 : True := ⟨⟩
theorem tw6475668928365284201 : True := ⟨⟩
theorem tw6478787787926441834 : True := ⟨⟩
theorem tw6487352956860082180 : True := ⟨⟩
theorem tw6513947717537150293 : True := ⟨⟩
theorem tw6523882084350319725 : True := ⟨⟩
theorem tw6538391545146114233 : True := ⟨⟩
theorem tw657407498640621875 : True := ⟨⟩
theorem tw6579006141471042642 : True := ⟨⟩
theorem tw6611030356582822068 : True := ⟨⟩
theorem tw661664588019599107 : True := ⟨⟩
theorem tw6622150576667484216 : True := ⟨⟩
theorem tw6634692877591019710 : True := ⟨⟩
theorem tw6656231838034026162 : True := ⟨⟩
theorem tw6688278300058952387 : True := ⟨⟩
theorem tw6693220840876725470 : True := ⟨⟩
theorem tw6694805413502673146 : True := ⟨⟩
theorem tw6698725225387749567 : True := ⟨⟩
theorem tw6707486280135588888 : True := ⟨⟩
theorem tw6721579946203436601 : True := ⟨⟩
theorem tw6752759585357706198 : True := ⟨⟩
theorem tw677210706308808349 : True := ⟨⟩
theorem tw6789790630964024983 : True := ⟨⟩
theorem tw6800789323264608528 : True := ⟨⟩
theorem tw6807282020434569572 : True := ⟨⟩
theorem tw6837818764947263962 : True := ⟨⟩
theorem tw6839606769468120364 : True := ⟨⟩
theorem tw684064349180729535 : True := ⟨⟩
theorem tw6854178956953853374 : True := ⟨⟩
theorem tw6868508937239232750 : True := ⟨⟩
theorem tw6873399512355158014 : True := ⟨⟩
theorem tw6873614041213916418 : True := ⟨⟩
theorem tw6884274485777876349 : True := ⟨⟩
theorem tw6899134591264602421 : True := ⟨⟩
theorem tw6900731085549521469 : True := ⟨⟩
theorem tw6900774283405549937 : True := ⟨⟩
theorem tw6919012999923025775 : True := ⟨⟩
theorem tw6925149210544036131 : True := ⟨⟩
theorem tw693159750657407407 : True := ⟨⟩
theorem tw6948442333794802072 : True := ⟨⟩
theorem tw6950260133781373166 : True := ⟨⟩
theorem tw6968647312980064633 : True := ⟨⟩
theorem tw6991955944185095975 : True := ⟨⟩
theorem tw7000439270330290125 : True := ⟨⟩
theorem tw7028833123461301958 : True := ⟨⟩
theorem tw7039552826165213294 : True := ⟨⟩
theorem tw7047299854412998361 : True := ⟨⟩
theorem tw7052568272083921669 : True := ⟨⟩
theorem tw7053950869529525465 : True := ⟨⟩
theorem tw7078736642686178390 : True := ⟨⟩
theorem tw7082833369799885332 : True := ⟨⟩
theorem tw7084807430006116238 : True := ⟨⟩
theorem tw7085817940421164034 : True := ⟨⟩
theorem tw7106747283760911759 : True := ⟨⟩
theorem tw7116301039782747359 : True := ⟨⟩
theorem tw712733125156272447 : True := ⟨⟩
theorem tw7147661979445302706 : True := ⟨⟩
theorem tw7168853710609731344 : True := ⟨⟩
theorem tw7169848277234257297 : True := ⟨⟩
theorem tw7209796091387299956 : True := ⟨⟩
theorem tw721099707990994087 : True := ⟨⟩
theorem tw7228613107392120011 : True := ⟨⟩
theorem tw7253187364928093467 : True := ⟨⟩
theorem tw7253324953042827369 : True := ⟨⟩
theorem tw7273910824737856731 : True := ⟨⟩
theorem tw7274010619308728796 : True := ⟨⟩
theorem tw7281789762507122299 : True := ⟨⟩
theorem tw730018519977014757 : True := ⟨⟩
theorem tw7306704675810786797 : True := ⟨⟩
theorem tw732586155322051499 : True := ⟨⟩
theorem tw7340324461100165108 : True := ⟨⟩
theorem tw7344767357792436125 : True := ⟨⟩
theorem tw7365426131469257241 : True := ⟨⟩
theorem tw7372736464540009814 : True := ⟨⟩
theorem tw7380667597298216715 : True := ⟨⟩
theorem tw7380737891659684533 : True := ⟨⟩
theorem tw738789159406128140 : True := ⟨⟩
theorem tw7394169123110935306 : True := ⟨⟩
theorem tw7413583823512334212 : True := ⟨⟩
theorem tw7446156804331849419 : True := ⟨⟩
theorem tw7465952502127006684 : True := ⟨⟩
theorem tw7470679767882095757 : True := ⟨⟩
theorem tw7473258088394131437 : True := ⟨⟩
theorem tw750656800990748694 : True := ⟨⟩
theorem tw751362701630743922 : True := ⟨⟩
theorem tw7527045090102362524 : True := ⟨⟩
theorem tw7539108560816394368 : True := ⟨⟩
theorem tw7546755466339226490 : True := ⟨⟩
theorem tw7554084524618172990 : True := ⟨⟩
theorem tw7556354024190911721 : True := ⟨⟩
theorem tw7600578403627061378 : True := ⟨⟩
theorem tw7644624074067332482 : True := ⟨⟩
theorem tw7652536761349790700 : True := ⟨⟩
theorem tw7657161229537209048 : True := ⟨⟩
theorem tw7672432551068212338 : True := ⟨⟩
theorem tw7672674008875649085 : True := ⟨⟩
theorem tw7679148344409144680 : True := ⟨⟩
theorem tw7696582325085527700 : True := ⟨⟩
theorem tw7715827440616026998 : True := ⟨⟩
theorem tw7716191020100267594 : True := ⟨⟩
theorem tw7716443056254688475 : True := ⟨⟩
theorem tw7736519216265468361 : True := ⟨⟩
theorem tw7746957581345724138 : True := ⟨⟩
theorem tw7754429630099156750 : True := ⟨⟩
theorem tw776056548799521774 : True := ⟨⟩
theorem tw7791950860873606604 : True := ⟨⟩
theorem tw7792725901154942530 : True := ⟨⟩
theorem tw7800189405524895660 : True := ⟨⟩
theorem tw7810186565959379075 : True := ⟨⟩
theorem tw7818434779353291235 : True := ⟨⟩
theorem tw7842959172925890588 : True := ⟨⟩
theorem tw788007730921572594 : True := ⟨⟩
theorem tw7881497201666147564 : True := ⟨⟩
theorem tw7890866008676330876 : True := ⟨⟩
theorem tw79562441186909183 : True := ⟨⟩
theorem tw7967812014868558253 : True := ⟨⟩
theorem tw7989696755740880794 : True := ⟨⟩
theorem tw8010337327900014246 : True := ⟨⟩
theorem tw8019912454424913321 : True := ⟨⟩
theorem tw8026844979314900060 : True := ⟨⟩
theorem tw8038253691648402036 : True := ⟨⟩
theorem tw8040821278957012413 : True := ⟨⟩
theorem tw8050548369107598662 : True := ⟨⟩
theorem tw8068333962393322839 : True := ⟨⟩
theorem tw806895023995542383 : True := ⟨⟩
theorem tw8070572824630737657 : True := ⟨⟩
theorem tw8077960055538861308 : True := ⟨⟩
theorem tw8082104102585533677 : True := ⟨⟩
theorem tw808546901731947440 : True := ⟨⟩
theorem tw8123253737395767368 : True := ⟨⟩
theorem tw8136328696398795215 : True := ⟨⟩
theorem tw8137337322778922390 : True := ⟨⟩
theorem tw8138084389506371687 : True := ⟨⟩
theorem tw8139379366441657614 : True := ⟨⟩
theorem tw8143100818028448799 : True := ⟨⟩
theorem tw8154024923358470838 : True := ⟨⟩
theorem tw8191869052576132573 : True := ⟨⟩
theorem tw8230128353588920716 : True := ⟨⟩
theorem tw8237368145040747629 : True := ⟨⟩
theorem tw825545973700651876 : True := ⟨⟩
theorem tw8286185457536943318 : True := ⟨⟩
theorem tw8287556213236352260 : True := ⟨⟩
theorem tw8345560877234265574 : True := ⟨⟩
theorem tw8359792913072195828 : True := ⟨⟩
theorem tw8364776858869084933 : True := ⟨⟩
theorem tw839627083853442787 : True := ⟨⟩
theorem tw8410753451549586234 : True := ⟨⟩
theorem tw8432863908256534567 : True := ⟨⟩
theorem tw8447677873929803989 : True := ⟨⟩
theorem tw8488457167066964572 : True := ⟨⟩
theorem tw8512154844815317752 : True := ⟨⟩
theorem tw8514119772831853853 : True := ⟨⟩
theorem tw8514769260063136693 : True := ⟨⟩
theorem tw8517524958296386390 : True := ⟨⟩
theorem tw8520764564376217723 : True := ⟨⟩
theorem tw8521580788699007328 : True := ⟨⟩
theorem tw8521886797364498718 : True := ⟨⟩
theorem tw85244446944402905 : True := ⟨⟩
theorem tw8534833511749321836 : True := ⟨⟩
theorem tw8534976683103543977 : True := ⟨⟩
theorem tw8578630461356474707 : True := ⟨⟩
theorem tw8587552050624501146 : True := ⟨⟩
theorem tw8600361732997149524 : True := ⟨⟩
theorem tw8610487353847948206 : True := ⟨⟩
theorem tw861960579015170190 : True := ⟨⟩
theorem tw8647981060772125482 : True := ⟨⟩
theorem tw8653554418223732417 : True := ⟨⟩
theorem tw8661357289708772373 : True := ⟨⟩
theorem tw8662719374463789135 : True := ⟨⟩
theorem tw8666796615465280914 : True := ⟨⟩
theorem tw8667844651763770394 : True := ⟨⟩
theorem tw8695834794469456093 : True := ⟨⟩
theorem tw8698141978860528634 : True := ⟨⟩
theorem tw8724510877347542170 : True := ⟨⟩
theorem tw874630948901198531 : True := ⟨⟩
theorem tw8807846995666197612 : True := ⟨⟩
theorem tw8879300879240516862 : True := ⟨⟩
theorem tw8885211821632873985 : True := ⟨⟩
theorem tw8904207089175912127 : True := ⟨⟩
theorem tw892338849539841862 : True := ⟨⟩
theorem tw8933860796737062526 : True := ⟨⟩
theorem tw895778769243568423 : True := ⟨⟩
theorem tw8968540161615412552 : True := ⟨⟩
theorem tw8992990712700755597 : True := ⟨⟩
theorem tw8995498356112160629 : True := ⟨⟩
theorem tw8995661451687556175 : True := ⟨⟩
theorem tw9008986715231616493 : True := ⟨⟩
theorem tw9013066542707575318 : True := ⟨⟩
theorem tw9013556270464486154 : True := ⟨⟩
theorem tw9016310177869615996 : True := ⟨⟩
theorem tw9017168854992159843 : True := ⟨⟩
theorem tw9032532398218275181 : True := ⟨⟩
theorem tw9083382516223848558 : True := ⟨⟩
theorem tw9105957298444672995 : True := ⟨⟩
theorem tw9113654344587412051 : True := ⟨⟩
theorem tw9124796176256190245 : True := ⟨⟩
theorem tw9138423343153938533 : True := ⟨⟩
theorem tw9147861936128922651 : True := ⟨⟩
theorem tw9161458610762191313 : True := ⟨⟩
theorem tw9169377864550816092 : True := ⟨⟩
theorem tw9177636151930007719 : True := ⟨⟩
theorem tw919809176962466453 : True := ⟨⟩
theorem tw9208356398843817414 : True := ⟨⟩
theorem tw9214309421485791580 : True := ⟨⟩
theorem tw9232775946159205626 : True := ⟨⟩
theorem tw9248903088399719394 : True := ⟨⟩
theorem tw9271240290516206930 : True := ⟨⟩
theorem tw9275473893063272791 : True := ⟨⟩
theorem tw9288019024677834580 : True := ⟨⟩
theorem tw9289634197701820045 : True := ⟨⟩
theorem tw9348148069449377548 : True := ⟨⟩
theorem tw9374463148371948499 : True := ⟨⟩
theorem tw9385700840757858681 : True := ⟨⟩
theorem tw9389099297957893461 : True := ⟨⟩
theorem tw9390638134005999056 : True := ⟨⟩
theorem tw9411019179365305712 : True := ⟨⟩
theorem tw9411516717205815668 : True := ⟨⟩
theorem tw9440145350393806389 : True := ⟨⟩
theorem tw9450335948986698252 : True := ⟨⟩
theorem tw9451935681073508133 : True := ⟨⟩
theorem tw9459001985149466073 : True := ⟨⟩
theorem tw9474584641814433094 : True := ⟨⟩
theorem tw9529048446567112016 : True := ⟨⟩
theorem tw9531815545910489331 : True := ⟨⟩
theorem tw9533199232336441512 : True := ⟨⟩
theorem tw954383436051774369 : True := ⟨⟩
theorem tw956342383713541596 : True := ⟨⟩
theorem tw956484704036357553 : True := ⟨⟩
theorem tw9567358540350363431 : True := ⟨⟩
theorem tw9581286946967864098 : True := ⟨⟩
theorem tw9584790999859711587 : True := ⟨⟩
theorem tw9589907492433546671 : True := ⟨⟩
theorem tw9593790411415195845 : True := ⟨⟩
theorem tw9605905523995326848 : True := ⟨⟩
theorem tw9668070271662314458 : True := ⟨⟩
theorem tw9674166592431000624 : True := ⟨⟩
theorem tw9674783767000555755 : True := ⟨⟩
theorem tw968070873064863810 : True := ⟨⟩
theorem tw9687553896877304291 : True := ⟨⟩
theorem tw9714698483293939247 : True := ⟨⟩
theorem tw9720984085894436677 : True := ⟨⟩
theorem tw973855751625017794 : True := ⟨⟩
theorem tw974045181461286329 : True := ⟨⟩
theorem tw9771752342401372167 : True := ⟨⟩
theorem tw9781749037422224941 : True := ⟨⟩
theorem tw9781786331797747800 : True := ⟨⟩
theorem tw9790237756600475073 : True := ⟨⟩
theorem tw979132690202208243 : True := ⟨⟩
theorem tw9795156178148912102 : True := ⟨⟩
theorem tw9803829636196572209 : True := ⟨⟩
theorem tw9813192297075607518 : True := ⟨⟩
theorem tw9817364255559699540 : True := ⟨⟩
theorem tw9819381871234978016 : True := ⟨⟩
theorem tw9833903867542621965 : True := ⟨⟩
theorem tw9836302070913631831 : True := ⟨⟩
theorem tw9853226902798595589 : True := ⟨⟩
theorem tw9861848656529557817 : True := ⟨⟩
theorem tw9868443940595269095 : True := ⟨⟩
theorem tw9874359969587226399 : True := ⟨⟩
theorem tw9877162250995324695 : True := ⟨⟩
theorem tw9889170791110341411 : True := ⟨⟩
theorem tw9956468362898230961 : True := ⟨⟩
theorem tw9975798838168775527 : True := ⟨⟩
theorem tw9977744461696632352 : True := ⟨⟩
theorem tw9983286403248610169 : True := ⟨⟩
theorem tw9999340725249035685 : True := ⟨⟩
end Mine.hd
/-! The head (the kit's), the start of the call, then the law's end; each field of `Checks` is one kernel check, a lemma of its own. -/
set_option maxHeartbeats 0 in
set_option Elab.async true in
theorem Mine.hd : PySem.Challenge.rw_in0139_01.Holds := by
  w_on; o_law; z_head; (case hw => w_witness2)
  k_fill
  intro w s₀ s₁ mg mb G y fa o pm cd doc dV kV ho hd hcd hD hmg hg args vals as L hpre hlay hrd hwl hlo
  z_open y L KX ZH ZN ZT
  refine Ground.open G ?_
  intro T B D TE TW
  wrow_args hpre hlay hrd hwl hlo
  obtain ⟨hat, hsz⟩ := script_at L
  have htk := script_toks L ZT
  rw [ZN] at hat hsz
  subst hat
  x_fa T KX hmg
  all_lens
  set_option Elab.async false in
    · rename IntsAre _ _ => hv9
      rename Heap.IsList _ _ _ => hL9
      rename (_ ∧ _ ≤ 2 ^ 20) => hb9
      rename (¬ ((63 : Nat) : Int) < _) => hc9
      have hL' := script_obj L hL9
      refine law_end (cc := 789) ZH hsz (AllBare.of_eq hg) hL' hv9 (by omega) ?h785 ?h829 ?hcc ?hnl ?h8 ?hK ?hFX ?hFB ?hn ?hp
      case h785 => refine unhold ?_; as_aux_lemma => k_slotget
      case h829 => refine unhold ?_; as_aux_lemma => k_slotget
      case hcc => refine unhold ?_; as_aux_lemma => k_slotget
      case hnl => refine unhold ?_; as_aux_lemma => k_slotget
      case h8 => refine unhold ?_; as_aux_lemma => k_slotget
      case hFX => exact { k761 := kindNe (by refine unhold ?_; as_aux_lemma => k_slotget), k804 := kindNe (by refine unhold ?_; as_aux_lemma => k_slotget), k828 := kindNe (by refine unhold ?_; as_aux_lemma => k_slotget) }
      case hFB => unfold FactB; refine unhold ?_; as_aux_lemma => k_slotget
      case hn => intro x; rfl
      case hp => wrow_post
      case hK => exact {
          rReadMid := by intro b₀; cases b₀ <;> (unfold rReadMidC; intros; intro m tk zs; refine unhold ?_; as_aux_lemma => k_slotget)
          rReadLast := by intro b₀; cases b₀ <;> (unfold rReadLastC; intros; intro m tk zs; refine unhold ?_; as_aux_lemma => k_slotget)
          rEof := by intro b₀; cases b₀ <;> (unfold rEofC; intros; intro m tk zs; refine unhold ?_; as_aux_lemma => k_slotget)
          rTok0 := by intro b₀; cases b₀ <;> (unfold rTok0C; intros; intro m tk zs; refine unhold ?_; as_aux_lemma => k_slotget)
          rTokE0 := by intro b₀; cases b₀ <;> (unfold rTokE0C; intros; intro m tk zs; refine unhold ?_; as_aux_lemma => k_slotget)
          rTok1 := by intro b₀; cases b₀ <;> (unfold rTok1C; intros; intro m tk zs; refine unhold ?_; as_aux_lemma => k_slotget)
          rTokE1 := by intro b₀; cases b₀ <;> (unfold rTokE1C; intros; intro m tk zs; refine unhold ?_; as_aux_lemma => k_slotget)
          rTok2 := by intro b₀; cases b₀ <;> (unfold rTok2C; intros; intro m tk zs; refine unhold ?_; as_aux_lemma => k_slotget)
          rTokE2 := by intro b₀; cases b₀ <;> (unfold rTokE2C; intros; intro m tk zs; refine unhold ?_; as_aux_lemma => k_slotget)
          rTok3 := by intro b₀; cases b₀ <;> (unfold rTok3C; intros; intro m tk zs; refine unhold ?_; as_aux_lemma => k_slotget)
          rTokE3 := by intro b₀; cases b₀ <;> (unfold rTokE3C; intros; intro m tk zs; refine unhold ?_; as_aux_lemma => k_slotget)
          rTokN := by intro b₀; cases b₀ <;> (unfold rTokNC; intros; intro m tk zs; refine unhold ?_; as_aux_lemma => k_slotget)
          rTokZ := by intro b₀; cases b₀ <;> (unfold rTokZC; intros; intro m tk zs; refine unhold ?_; as_aux_lemma => k_slotget)
          rGetP := by intro b₀; cases b₀ <;> (unfold rGetPC; intros; intro m tk zs; refine unhold ?_; as_aux_lemma => k_slotget)
          rPush := by intro b₀; cases b₀ <;> (unfold rPushC; intros; intro m tk zs; refine unhold ?_; as_aux_lemma => k_slotget)
          rGetW := by intro b₀; cases b₀ <;> (unfold rGetWC; intros; intro m tk zs; refine unhold ?_; as_aux_lemma => k_slotget)
          rGetN := by intro b₀; cases b₀ <;> (unfold rGetNC; intros; intro m tk zs; refine unhold ?_; as_aux_lemma => k_slotget)
          rRule0 := by intro b₀; cases b₀ <;> (unfold rRule0C; intros; intro m tk zs; refine unhold ?_; as_aux_lemma => k_slotget)
          rRule1 := by intro b₀; cases b₀ <;> (unfold rRule1C; intros; intro m tk zs; refine unhold ?_; as_aux_lemma => k_slotget)
          rRule2 := by intro b₀; cases b₀ <;> (unfold rRule2C; intros; intro m tk zs; refine unhold ?_; as_aux_lemma => k_slotget)
          rRule3 := by intro b₀; cases b₀ <;> (unfold rRule3C; intros; intro m tk zs; refine unhold ?_; as_aux_lemma => k_slotget)
          rStream := by intro b₀; cases b₀ <;> (unfold rStreamC; intros; intro m tk zs; refine unhold ?_; as_aux_lemma => k_slotget)
          rGive := by intro b₀; cases b₀ <;> (unfold rGiveC; intros; intro m tk zs; refine unhold ?_; as_aux_lemma => k_slotget)
          rRdc := by intro b₀; cases b₀ <;> (unfold rRdcC; intros; intro m tk zs; refine unhold ?_; as_aux_lemma => k_slotget)
          rNA0 := by intro b₀; cases b₀ <;> (unfold rNA0C; intros; intro m tk zs; refine unhold ?_; as_aux_lemma => k_slotget)
          rNB0 := by intro b₀; cases b₀ <;> (unfold rNB0C; intros; intro m tk zs; refine unhold ?_; as_aux_lemma => k_slotget)
          rNA1 := by intro b₀; cases b₀ <;> (unfold rNA1C; intros; intro m tk zs; refine unhold ?_; as_aux_lemma => k_slotget)
          rNB1 := by intro b₀; cases b₀ <;> (unfold rNB1C; intros; intro m tk zs; refine unhold ?_; as_aux_lemma => k_slotget)
          rNA2 := by intro b₀; cases b₀ <;> (unfold rNA2C; intros; intro m tk zs; refine unhold ?_; as_aux_lemma => k_slotget)
          rNB2 := by intro b₀; cases b₀ <;> (unfold rNB2C; intros; intro m tk zs; refine unhold ?_; as_aux_lemma => k_slotget)
          rNA3 := by intro b₀; cases b₀ <;> (unfold rNA3C; intros; intro m tk zs; refine unhold ?_; as_aux_lemma => k_slotget)
          rNB3 := by intro b₀; cases b₀ <;> (unfold rNB3C; intros; intro m tk zs; refine unhold ?_; as_aux_lemma => k_slotget)
          rNPop := by intro b₀; cases b₀ <;> (unfold rNPopC; intros; intro m tk zs; refine unhold ?_; as_aux_lemma => k_slotget)
          rNPush := by intro b₀; cases b₀ <;> (unfold rNPushC; intros; intro m tk zs; refine unhold ?_; as_aux_lemma => k_slotget)
          rShNew := by intro b₀; cases b₀ <;> (unfold rShNewC; intros; intro m tk zs; refine unhold ?_; as_aux_lemma => k_slotget)
          rRdLE := by intro b₀; cases b₀ <;> (unfold rRdLEC; intros; intro m tk zs; refine unhold ?_; as_aux_lemma => k_slotget)
          rRdLF := by intro b₀; cases b₀ <;> (unfold rRdLFC; intros; intro m tk zs; refine unhold ?_; as_aux_lemma => k_slotget)
          rRdLT := by intro b₀; cases b₀ <;> (unfold rRdLTC; intros; intro m tk zs; refine unhold ?_; as_aux_lemma => k_slotget)
          rRound := by intro b₀; cases b₀ <;> (unfold rRoundC; intros; intro m tk zs; refine unhold ?_; as_aux_lemma => k_slotget)
          rLine := by intro b₀; cases b₀ <;> (unfold rLineC; intros; intro m tk zs; refine unhold ?_; as_aux_lemma => k_slotget)
          rC1E := by intro b₀; cases b₀ <;> (unfold rC1EC; intros; intro m tk zs; refine unhold ?_; as_aux_lemma => k_slotget)
          rC1F := by intro b₀; cases b₀ <;> (unfold rC1FC; intros; intro m tk zs; refine unhold ?_; as_aux_lemma => k_slotget)
          rC1T := by intro b₀; cases b₀ <;> (unfold rC1TC; intros; intro m tk zs; refine unhold ?_; as_aux_lemma => k_slotget)
          rC1B2 := by intro b₀; cases b₀ <;> (unfold rC1BC2; intros; intro m tk zs; refine unhold ?_; as_aux_lemma => k_slotget)
          rC1B3 := by (unfold rC1BC3; intros; intro m tk zs; refine unhold ?_; as_aux_lemma => k_slotget)
          rPuE := by intro b₀; cases b₀ <;> (unfold rPuEC; intros; intro m tk zs; refine unhold ?_; as_aux_lemma => k_slotget)
          rPuF := by intro b₀; cases b₀ <;> (unfold rPuFC; intros; intro m tk zs; refine unhold ?_; as_aux_lemma => k_slotget)
          rPuT := by intro b₀; cases b₀ <;> (unfold rPuTC; intros; intro m tk zs; refine unhold ?_; as_aux_lemma => k_slotget)
          rOnE := by intro b₀; cases b₀ <;> (unfold rOnEC; intros; intro m tk zs; refine unhold ?_; as_aux_lemma => k_slotget)
          rOnT0 := by intro b₀; cases b₀ <;> (unfold rOnT0C; intros; intro m tk zs; refine unhold ?_; as_aux_lemma => k_slotget)
          rOnT1 := by intro b₀; cases b₀ <;> (unfold rOnT1C; intros; intro m tk zs; refine unhold ?_; as_aux_lemma => k_slotget)
          rOnT2 := by intro b₀; cases b₀ <;> (unfold rOnT2C; intros; intro m tk zs; refine unhold ?_; as_aux_lemma => k_slotget)
          rOnT3 := by intro b₀; cases b₀ <;> (unfold rOnT3C; intros; intro m tk zs; refine unhold ?_; as_aux_lemma => k_slotget)
          rOnT4 := by intro b₀; cases b₀ <;> (unfold rOnT4C; intros; intro m tk zs; refine unhold ?_; as_aux_lemma => k_slotget)
          rOnT5 := by intro b₀; cases b₀ <;> (unfold rOnT5C; intros; intro m tk zs; refine unhold ?_; as_aux_lemma => k_slotget)
          rOnF0 := by intro b₀; cases b₀ <;> (unfold rOnF0C; intros; intro m tk zs; refine unhold ?_; as_aux_lemma => k_slotget)
          rOnF1 := by intro b₀; cases b₀ <;> (unfold rOnF1C; intros; intro m tk zs; refine unhold ?_; as_aux_lemma => k_slotget)
          rOne := by intro b₀; cases b₀ <;> (unfold rOneC; intros; intro m tk zs; refine unhold ?_; as_aux_lemma => k_slotget)
          rTwE := by intro b₀; cases b₀ <;> (unfold rTwEC; intros; intro m tk zs; refine unhold ?_; as_aux_lemma => k_slotget)
          rTwT0 := by intro b₀; cases b₀ <;> (unfold rTwT0C; intros; intro m tk zs; refine unhold ?_; as_aux_lemma => k_slotget)
          rTwT1 := by intro b₀; cases b₀ <;> (unfold rTwT1C; intros; intro m tk zs; refine unhold ?_; as_aux_lemma => k_slotget)
          rTwT2 := by intro b₀; cases b₀ <;> (unfold rTwT2C; intros; intro m tk zs; refine unhold ?_; as_aux_lemma => k_slotget)
          rTwT3 := by intro b₀; cases b₀ <;> (unfold rTwT3C; intros; intro m tk zs; refine unhold ?_; as_aux_lemma => k_slotget)
          rTwT4 := by intro b₀; cases b₀ <;> (unfold rTwT4C; intros; intro m tk zs; refine unhold ?_; as_aux_lemma => k_slotget)
          rTwT5 := by intro b₀; cases b₀ <;> (unfold rTwT5C; intros; intro m tk zs; refine unhold ?_; as_aux_lemma => k_slotget)
          rTwF0 := by intro b₀; cases b₀ <;> (unfold rTwF0C; intros; intro m tk zs; refine unhold ?_; as_aux_lemma => k_slotget)
          rTwF1 := by intro b₀; cases b₀ <;> (unfold rTwF1C; intros; intro m tk zs; refine unhold ?_; as_aux_lemma => k_slotget)
          rTwo := by intro b₀; cases b₀ <;> (unfold rTwoC; intros; intro m tk zs; refine unhold ?_; as_aux_lemma => k_slotget)
          rNxB := by intro b₀; cases b₀ <;> (unfold rNxBC; intros; intro m tk zs; refine unhold ?_; as_aux_lemma => k_slotget)
          rLs := by intro b₀; cases b₀ <;> (unfold rLsC; intros; intro m tk zs; refine unhold ?_; as_aux_lemma => k_slotget)
          rLxE := by intro b₀; cases b₀ <;> (unfold rLxEC; intros; intro m tk zs; refine unhold ?_; as_aux_lemma => k_slotget)
          rLxB := by intro b₀; cases b₀ <;> (unfold rLxBC; intros; intro m tk zs; refine unhold ?_; as_aux_lemma => k_slotget)
          rPlT0 := by intro b₀; cases b₀ <;> (unfold rPlT0C; intros; intro m tk zs; refine unhold ?_; as_aux_lemma => k_slotget)
          rPlU0 := by intro b₀; cases b₀ <;> (unfold rPlU0C; intros; intro m tk zs; refine unhold ?_; as_aux_lemma => k_slotget)
          rPlT1 := by intro b₀; cases b₀ <;> (unfold rPlT1C; intros; intro m tk zs; refine unhold ?_; as_aux_lemma => k_slotget)
          rPlU1 := by intro b₀; cases b₀ <;> (unfold rPlU1C; intros; intro m tk zs; refine unhold ?_; as_aux_lemma => k_slotget)
          rPlT2 := by intro b₀; cases b₀ <;> (unfold rPlT2C; intros; intro m tk zs; refine unhold ?_; as_aux_lemma => k_slotget)
          rPlU2 := by intro b₀; cases b₀ <;> (unfold rPlU2C; intros; intro m tk zs; refine unhold ?_; as_aux_lemma => k_slotget)
          rPlT3 := by intro b₀; cases b₀ <;> (unfold rPlT3C; intros; intro m tk zs; refine unhold ?_; as_aux_lemma => k_slotget)
          rPlU3 := by intro b₀; cases b₀ <;> (unfold rPlU3C; intros; intro m tk zs; refine unhold ?_; as_aux_lemma => k_slotget)
          rPlT4 := by intro b₀; cases b₀ <;> (unfold rPlT4C; intros; intro m tk zs; refine unhold ?_; as_aux_lemma => k_slotget)
          rPlU4 := by intro b₀; cases b₀ <;> (unfold rPlU4C; intros; intro m tk zs; refine unhold ?_; as_aux_lemma => k_slotget)
          rPlT5 := by intro b₀; cases b₀ <;> (unfold rPlT5C; intros; intro m tk zs; refine unhold ?_; as_aux_lemma => k_slotget)
          rPlU5 := by intro b₀; cases b₀ <;> (unfold rPlU5C; intros; intro m tk zs; refine unhold ?_; as_aux_lemma => k_slotget)
          rPlF0 := by intro b₀; cases b₀ <;> (unfold rPlF0C; intros; intro m tk zs; refine unhold ?_; as_aux_lemma => k_slotget)
          rPlF1 := by intro b₀; cases b₀ <;> (unfold rPlF1C; intros; intro m tk zs; refine unhold ?_; as_aux_lemma => k_slotget)
          rMinA := by intro b₀; cases b₀ <;> (unfold rMinAC; intros; intro m tk zs; refine unhold ?_; as_aux_lemma => k_slotget)
          rMinB := by intro b₀; cases b₀ <;> (unfold rMinBC; intros; intro m tk zs; refine unhold ?_; as_aux_lemma => k_slotget)
          rPln := by intro b₀; cases b₀ <;> (unfold rPlnC; intros; intro m tk zs; refine unhold ?_; as_aux_lemma => k_slotget)
          rRep0 := by intro b₀; cases b₀ <;> (unfold rRep0C; intros; intro m tk zs; refine unhold ?_; as_aux_lemma => k_slotget)
          rRep1 := by intro b₀; cases b₀ <;> (unfold rRep1C; intros; intro m tk zs; refine unhold ?_; as_aux_lemma => k_slotget)
          rRep2 := by intro b₀; cases b₀ <;> (unfold rRep2C; intros; intro m tk zs; refine unhold ?_; as_aux_lemma => k_slotget)
          rRep3 := by intro b₀; cases b₀ <;> (unfold rRep3C; intros; intro m tk zs; refine unhold ?_; as_aux_lemma => k_slotget)
          rL0E := by intro b₀; cases b₀ <;> (unfold rL0EC; intros; intro m tk zs; refine unhold ?_; as_aux_lemma => k_slotget)
          rL0F := by intro b₀; cases b₀ <;> (unfold rL0FC; intros; intro m tk zs; refine unhold ?_; as_aux_lemma => k_slotget)
          rL0T := by intro b₀; cases b₀ <;> (unfold rL0TC; intros; intro m tk zs; refine unhold ?_; as_aux_lemma => k_slotget)
          rL0B2 := by intro b₀; cases b₀ <;> (unfold rL0BC2; intros; intro m tk zs; refine unhold ?_; as_aux_lemma => k_slotget)
          rL0B3 := by (unfold rL0BC3; intros; intro m tk zs; refine unhold ?_; as_aux_lemma => k_slotget)
          rL1E := by intro b₀; cases b₀ <;> (unfold rL1EC; intros; intro m tk zs; refine unhold ?_; as_aux_lemma => k_slotget)
          rL1F := by intro b₀; cases b₀ <;> (unfold rL1FC; intros; intro m tk zs; refine unhold ?_; as_aux_lemma => k_slotget)
          rL1T := by intro b₀; cases b₀ <;> (unfold rL1TC; intros; intro m tk zs; refine unhold ?_; as_aux_lemma => k_slotget)
          rL1B2 := by intro b₀; cases b₀ <;> (unfold rL1BC2; intros; intro m tk zs; refine unhold ?_; as_aux_lemma => k_slotget)
          rL1B3 := by (unfold rL1BC3; intros; intro m tk zs; refine unhold ?_; as_aux_lemma => k_slotget)
          rL2E := by intro b₀; cases b₀ <;> (unfold rL2EC; intros; intro m tk zs; refine unhold ?_; as_aux_lemma => k_slotget)
          rL2F := by intro b₀; cases b₀ <;> (unfold rL2FC; intros; intro m tk zs; refine unhold ?_; as_aux_lemma => k_slotget)
          rL2T := by intro b₀; cases b₀ <;> (unfold rL2TC; intros; intro m tk zs; refine unhold ?_; as_aux_lemma => k_slotget)
          rL2B2 := by intro b₀; cases b₀ <;> (unfold rL2BC2; intros; intro m tk zs; refine unhold ?_; as_aux_lemma => k_slotget)
          rL2B3 := by (unfold rL2BC3; intros; intro m tk zs; refine unhold ?_; as_aux_lemma => k_slotget)
          rL3E := by intro b₀; cases b₀ <;> (unfold rL3EC; intros; intro m tk zs; refine unhold ?_; as_aux_lemma => k_slotget)
          rL3F := by intro b₀; cases b₀ <;> (unfold rL3FC; intros; intro m tk zs; refine unhold ?_; as_aux_lemma => k_slotget)
          rL3T := by intro b₀; cases b₀ <;> (unfold rL3TC; intros; intro m tk zs; refine unhold ?_; as_aux_lemma => k_slotget)
          rL3B2 := by intro b₀; cases b₀ <;> (unfold rL3BC2; intros; intro m tk zs; refine unhold ?_; as_aux_lemma => k_slotget)
          rL3B3 := by (unfold rL3BC3; intros; intro m tk zs; refine unhold ?_; as_aux_lemma => k_slotget)
          rL4E := by intro b₀; cases b₀ <;> (unfold rL4EC; intros; intro m tk zs; refine unhold ?_; as_aux_lemma => k_slotget)
          rL4F := by intro b₀; cases b₀ <;> (unfold rL4FC; intros; intro m tk zs; refine unhold ?_; as_aux_lemma => k_slotget)
          rL4T := by intro b₀; cases b₀ <;> (unfold rL4TC; intros; intro m tk zs; refine unhold ?_; as_aux_lemma => k_slotget)
          rL4B2 := by intro b₀; cases b₀ <;> (unfold rL4BC2; intros; intro m tk zs; refine unhold ?_; as_aux_lemma => k_slotget)
          rL4B3 := by (unfold rL4BC3; intros; intro m tk zs; refine unhold ?_; as_aux_lemma => k_slotget)
          rL5E := by intro b₀; cases b₀ <;> (unfold rL5EC; intros; intro m tk zs; refine unhold ?_; as_aux_lemma => k_slotget)
          rL5F := by intro b₀; cases b₀ <;> (unfold rL5FC; intros; intro m tk zs; refine unhold ?_; as_aux_lemma => k_slotget)
          rL5T := by intro b₀; cases b₀ <;> (unfold rL5TC; intros; intro m tk zs; refine unhold ?_; as_aux_lemma => k_slotget)
          rL5B2 := by intro b₀; cases b₀ <;> (unfold rL5BC2; intros; intro m tk zs; refine unhold ?_; as_aux_lemma => k_slotget)
          rL5B3 := by (unfold rL5BC3; intros; intro m tk zs; refine unhold ?_; as_aux_lemma => k_slotget)
          rT1_0 := by intro b₀; cases b₀ <;> (unfold rT1_0C; intros; intro m tk zs; refine unhold ?_; as_aux_lemma => k_slotget)
          rT1_1 := by intro b₀; cases b₀ <;> (unfold rT1_1C; intros; intro m tk zs; refine unhold ?_; as_aux_lemma => k_slotget)
          rT1_2 := by intro b₀; cases b₀ <;> (unfold rT1_2C; intros; intro m tk zs; refine unhold ?_; as_aux_lemma => k_slotget)
          rT1_3 := by intro b₀; cases b₀ <;> (unfold rT1_3C; intros; intro m tk zs; refine unhold ?_; as_aux_lemma => k_slotget)
          rT1_4 := by intro b₀; cases b₀ <;> (unfold rT1_4C; intros; intro m tk zs; refine unhold ?_; as_aux_lemma => k_slotget)
          rT1_5 := by intro b₀; cases b₀ <;> (unfold rT1_5C; intros; intro m tk zs; refine unhold ?_; as_aux_lemma => k_slotget)
          rT2_0 := by intro b₀; cases b₀ <;> (unfold rT2_0C; intros; intro m tk zs; refine unhold ?_; as_aux_lemma => k_slotget)
          rT2_1 := by intro b₀; cases b₀ <;> (unfold rT2_1C; intros; intro m tk zs; refine unhold ?_; as_aux_lemma => k_slotget)
          rT3 := by intro b₀; cases b₀ <;> (unfold rT3C; intros; intro m tk zs; refine unhold ?_; as_aux_lemma => k_slotget)
          rLaw := by intro b₀; cases b₀ <;> (unfold rLawC; intros; intro m tk zs; refine unhold ?_; as_aux_lemma => k_slotget)
          rDLenK := by intro b₀; cases b₀ <;> (unfold rDLenKC; intros; intro m tk zs; refine unhold ?_; as_aux_lemma => k_slotget)
          rDPopK := by intro b₀; cases b₀ <;> (unfold rDPopKC; intros; intro m tk zs; refine unhold ?_; as_aux_lemma => k_slotget)
          rDAppK := by intro b₀; cases b₀ <;> (unfold rDAppKC; intros; intro m tk zs; refine unhold ?_; as_aux_lemma => k_slotget)
          rLiEK := by intro b₀; cases b₀ <;> (unfold rLiEKC; intros; intro m tk zs; refine unhold ?_; as_aux_lemma => k_slotget)
          rLxTK := by intro b₀; cases b₀ <;> (unfold rLxTKC; intros; intro m tk zs; refine unhold ?_; as_aux_lemma => k_slotget) }
end
set_option maxRecDepth 100000 in
theorem PySem.Challenge.cw_in0139_01_holds : PySem.Challenge.rw_in0139_01.Holds := by
  exact Mine.hd
