import PyProof.Rows.All
import Wide.All
import OpenK.AllK
import Wide.FinOn
import PyProof.AutoIntOps
import PyProof.SumWalk
import PyProof.PureStr
import PyProof.MeetsStr
import PyProof.SliceStr
import PyProof.StrLawsIn
import PyProof.StrLawsIdx
import PyProof.StrLawsTight
import PyProof.StrLawsLast
import PyProof.StrLoop
import PyProof.ListIndex
import PyProof.ListIndexNeg
import PyProof.AutoSeq1
import PyProof.AutoListH
import PyProof.AutoRange
import PyProof.RangeIter
import PyProof.SliceMore
import PyProof.ListTruth
import PyProof.TupleOps
import PyProof.Rows.SortKeyStr
import KE.KSortAsk
import PyProof.CollectStr
import PyProof.Rows.CallKwBuiltin
import KE.KSortKey
import PyProof.SeqRoads2
import PySem.Challenge.RW_oy0085_02
set_option bootstrap.genMatcherCode false
set_option genSizeOf false
set_option genInjectivity false
section
set_option autoImplicit false
namespace Mine
section
variable {T : Type}
noncomputable def tab8 (f : Bool → Bool → Bool → T) : Prod (Prod (Prod T T) (Prod T T)) (Prod (Prod T T) (Prod T T)) := ⟨⟨⟨f true true true, f true true false⟩, ⟨f true false true, f true false false⟩⟩, ⟨⟨f false true true, f false true false⟩, ⟨f false false true, f false false false⟩⟩⟩
noncomputable def tab8' (f : Bool → Bool → Bool → T) : Prod (Prod (Prod T T) (Prod T T)) (Prod (Prod T T) (Prod T T)) := ⟨⟨⟨f true true true, f true true false⟩, ⟨f true false true, f true false false⟩⟩, ⟨⟨f false true true, f false true false⟩, ⟨f false false true, f false false false⟩⟩⟩
noncomputable def tab4 (f : Bool → Bool → Bool → T) : Prod (Prod (Bool → T) (Bool → T)) (Prod (Bool → T) (Bool → T)) := ⟨⟨fun b => f true b true, fun b => f true b false⟩, ⟨fun b => f false b true, fun b => f false b false⟩⟩
noncomputable def tab4' (f : Bool → Bool → Bool → T) : Prod (Prod (Bool → T) (Bool → T)) (Prod (Bool → T) (Bool → T)) := ⟨⟨fun b => f true b true, fun b => f true b false⟩, ⟨fun b => f false b true, fun b => f false b false⟩⟩
noncomputable def tab2 (f : Bool → Bool → Bool → T) : Prod (Bool → Bool → T) (Bool → Bool → T) := ⟨f true, f false⟩
noncomputable def tab2' (f : Bool → Bool → Bool → T) : Prod (Bool → Bool → T) (Bool → Bool → T) := ⟨f true, f false⟩
end
section
variable {T : Type} {f g : Bool → Bool → Bool → T}
theorem orc0 (h : f = g) : ∀ b1 b2 b3, f b1 b2 b3 = g b1 b2 b3 := fun b1 b2 b3 => congrFun (congrFun (congrFun h b1) b2) b3
theorem orc8 (h : tab8 f = tab8' g) : ∀ b1 b2 b3, f b1 b2 b3 = g b1 b2 b3 := by
  intro b1 b2 b3
  cases b1 <;> cases b2 <;> cases b3
  · exact congrArg (fun p => p.2.2.2) h
  · exact congrArg (fun p => p.2.2.1) h
  · exact congrArg (fun p => p.2.1.2) h
  · exact congrArg (fun p => p.2.1.1) h
  · exact congrArg (fun p => p.1.2.2) h
  · exact congrArg (fun p => p.1.2.1) h
  · exact congrArg (fun p => p.1.1.2) h
  · exact congrArg (fun p => p.1.1.1) h
theorem orc13 (h : tab4 f = tab4' g) : ∀ b1 b2 b3, f b1 b2 b3 = g b1 b2 b3 := by
  intro b1 b2 b3
  cases b1 <;> cases b3
  · exact congrArg (fun p => p.2.2 b2) h
  · exact congrArg (fun p => p.2.1 b2) h
  · exact congrArg (fun p => p.1.2 b2) h
  · exact congrArg (fun p => p.1.1 b2) h
theorem orc1 (h : tab2 f = tab2' g) : ∀ b1 b2 b3, f b1 b2 b3 = g b1 b2 b3 := by
  intro b1 b2 b3
  cases b1
  · exact congrArg (fun p => p.2 b2 b3) h
  · exact congrArg (fun p => p.1 b2 b3) h
end
noncomputable def dec9 : Nat → Nat → List Nat
  | 0, _ => []
  | k + 1, n => match n % 512 with
    | 0 => 0 :: dec9 k (n / 512)
    | x + 1 => (x + 1) :: dec9 k (n / 512)
end Mine
end
section
open PySem PySem.W PyProof.Rows PySem.W.X
set_option Elab.async false
set_option maxRecDepth 100000
set_option maxHeartbeats 4000000
set_option linter.unusedVariables false
namespace Mine
noncomputable abbrev An (d u : Nat) : Around := { handled := none, depth := d, frames := none, guards := none, units := u }
theorem wp_An {α : Type} {M : Model} {A : Around} {t : Sem α} {Q : α → Shared → Prop} {E : Value → Shared → Prop} {s : Shared} {d u : Nat}
    (hh : A.handled = none) (hd : A.depth ≤ d) (hu : A.units ≤ u) (x : wpAny M (An d u) t Q E s) : wpAny M A t Q E s :=
  fun Γ p hΓ => x Γ p ⟨hΓ.1.trans hh, Nat.le_trans hΓ.2.1 hd, fun _ h => (nomatch h), fun _ h => (nomatch h), Nat.le_trans hΓ.2.2.2.2 hu⟩
theorem code_An {M : Model} {A : Around} {c : Code} {R : Result → Shared → Prop} {s : Shared} {d u : Nat}
    (hh : A.handled = none) (hd : A.depth ≤ d) (hu : A.units ≤ u) (x : codeAny M (An d u) c R s) : codeAny M A c R s :=
  fun Γ p hc hΓ => x Γ p hc ⟨hΓ.1.trans hh, Nat.le_trans hΓ.2.1 hd, fun _ h => (nomatch h), fun _ h => (nomatch h), Nat.le_trans hΓ.2.2.2.2 hu⟩

noncomputable def ftS : List (Nat × Bool) → (String → Bool) → String → Bool
  | [], f, s => f s
  | p :: l, f, s => match Nat.beq (PySem.W.S.codeS s) p.1 with
    | true => p.2
    | false => ftS l f s
theorem ftS_eq {f : String → Bool} : ∀ {l : List (Nat × Bool)}, (∀ p ∈ l, ∀ s, PySem.code s = p.1 → f s = p.2) → ftS l f = f
  | [], _ => rfl
  | p :: l, h => by
    funext s
    unfold ftS
    split
    · rename_i q
      exact (h p (.head _) s ((PySem.W.S.code_S s).trans (Nat.eq_of_beq_eq_true q))).symm
    · rw [ftS_eq fun p hp => h p (.tail _ hp)]
noncomputable def setP (p : Params) (l : List (Nat × Bool)) : Params := { p with followText := ftS l p.followText }
noncomputable def parS (p : Params) (b1 b2 b3 : Bool) : Params := setP p [(10139888712337904147300001983332972444938612, b1), (41713534423588440486387129778652049616807117621888181212357554279, b2), (2510650655181157320538776789020469319833841985448949215332, b3)]
theorem parS_eq (p : Params) : p = parS p (p.followText "special-get-raises") (p.followText "for-iterable-display-folded") (p.followText "comprehension-iter-twice") := by
  have e : ftS [(10139888712337904147300001983332972444938612, p.followText "special-get-raises"), (41713534423588440486387129778652049616807117621888181212357554279, p.followText "for-iterable-display-folded"), (2510650655181157320538776789020469319833841985448949215332, p.followText "comprehension-iter-twice")] p.followText = p.followText := ftS_eq fun q hq s hs => by
    have inj : ∀ k, PySem.code k = q.1 → p.followText s = p.followText k := fun k hk => by rw [PySem.code_inj s k (hs.trans hk.symm)]
    simp only [List.mem_cons, List.not_mem_nil, or_false] at hq
    rcases hq with rfl | rfl | rfl
    · exact inj _ (show PySem.code "special-get-raises" = 10139888712337904147300001983332972444938612 by decide +kernel)
    · exact inj _ (show PySem.code "for-iterable-display-folded" = 41713534423588440486387129778652049616807117621888181212357554279 by decide +kernel)
    · exact inj _ (show PySem.code "comprehension-iter-twice" = 2510650655181157320538776789020469319833841985448949215332 by decide +kernel)
  unfold parS setP
  rw [e]
set_option genInjectivity true in
inductive VO where
  | v (x : Value)
  | o (x : Obj)
  | c (x : Code)
  | p (x : Prop)
structure Hk where
  nt : Nat
  nn : Nat
  res : List Nat → List Nat → Result
  news : List Nat → List Nat → List Obj
  upd : List Nat → List Nat → List Obj
  eqs : List (VO × VO) := []
structure Hr where
  needs : List Addr
  more : List (List Obj → List Addr) := []
  got : List Obj → Option Hk
noncomputable def allOf (objs : List Obj) : List (List Obj → List Addr) → List Addr → List Addr
  | [], acc => acc
  | g :: gs, acc => allOf objs gs (acc ++ g (objs.take acc.length))
noncomputable def Hr.all (r : Hr) (objs : List Obj) : List Addr := allOf objs r.more r.needs
set_option genInjectivity false in
structure SV where
  prog : Program
  w : World
  P : Params
  n₀ : Nat
  t₁ : Nat
  kt : KT
  old : List (Addr × Obj)
  mt : List (Addr × Obj)
  dd : Nat
  uu : Nat
  dm : Nat
  um : Nat
  h₀ : Heap
  g : Array GenState
  d : Drawn
  os : OsState
  D : Code → Sem Fin
  hook : Code → Option Hr
  Q₀ : Fin → Shared → Prop
  E₀ : Value → Shared → Prop
noncomputable def keysOf (l : List (Addr × Obj)) : List Addr := l.map (·.1)
noncomputable def locOf (mt : List (Addr × Obj)) (n₀ : Nat) (ad : Nat → Nat) (i : Nat) : Addr := match mt[i]? with
  | some p => p.1
  | none => ad i + n₀
inductive SRes where
  | done (r : Except Value Fin) (T : BT) (m k : Nat)
  | fail (n : Nat) (what : String)
  | need (a : Addr) (k : Nat → SRes)
  | same (a b : VO) (x : SRes)
inductive Kn where
  | base
  | any
  | ret (c : Code) (hd : Option Value) (k : Result → Sem Fin) (κ : Kn)
noncomputable def arOf (V : SV) : Kn → Around
  | .base => An V.dd V.uu
  | .any => An V.dd V.uu
  | .ret c hd _ κ => match κ with
    | .any => (An V.dd V.uu).mark hd
    | _ => ((arOf V κ).under c).mark hd
noncomputable abbrev StkF := Nat → (Nat → Pos) × List (Code × Pos)
noncomputable def stkIs : Kn → List (Code × Pos) → Prop
  | .base => fun _ => True
  | .any => fun _ => True
  | .ret c _ _ κ => match κ with
    | .any => fun _ => True
    | κ => fun l => ∃ p l', l = (c, p) :: l' ∧ stkIs κ l'
noncomputable def stkOf (f : Nat → Pos) (rest : List (Code × Pos)) : Kn → Nat → List (Code × Pos)
  | .base, _ => rest
  | .any, _ => rest
  | .ret c _ _ κ, i => match κ with
    | .any => rest
    | κ => (c, f i) :: stkOf f rest κ (i + 1)
theorem stkIs_of : ∀ (κ : Kn) (l : List (Code × Pos)) (i : Nat) (f : Nat → Pos), stkIs κ l → ∃ f' rest, (∀ j, j < i → f' j = f j) ∧ l = stkOf f' rest κ i
  | .base, l, i, f, _ => ⟨f, l, fun _ _ => rfl, rfl⟩
  | .any, l, i, f, _ => ⟨f, l, fun _ _ => rfl, rfl⟩
  | .ret c _ _ .any, l, i, f, _ => ⟨f, l, fun _ _ => rfl, rfl⟩
  | .ret c _ _ .base, l, i, f, ⟨p, l', e, h⟩ => by
    obtain ⟨f', rest, h1, h2⟩ := stkIs_of .base l' (i + 1) (fun j => if j = i then p else f j) h
    refine ⟨f', rest, fun j hj => (h1 j (by omega)).trans (if_neg (by omega)), ?_⟩
    rw [e, h2]
    have := h1 i (by omega)
    simp only [if_true] at this
    show _ = (c, f' i) :: stkOf f' rest .base (i + 1)
    rw [this]
  | .ret c _ _ (.ret c2 h2 k2 κ), l, i, f, ⟨p, l', e, h⟩ => by
    obtain ⟨f', rest, h1, h2⟩ := stkIs_of (.ret c2 h2 k2 κ) l' (i + 1) (fun j => if j = i then p else f j) h
    refine ⟨f', rest, fun j hj => (h1 j (by omega)).trans (if_neg (by omega)), ?_⟩
    rw [e, h2]
    have := h1 i (by omega)
    simp only [if_true] at this
    show _ = (c, f' i) :: stkOf f' rest (.ret c2 _ k2 κ) (i + 1)
    rw [this]
noncomputable def ctxOf (V : SV) (c : Code) : Kn → Ctx → Prop
  | .any => fun Γ => Γ.In (An V.dd V.uu)
  | κ => fun Γ => Γ.code = c ∧ Γ.Below (arOf V κ) ∧ stkIs κ Γ.below
noncomputable def qS (V : SV) (κ : Kn) (R : Result → Shared → Prop) : Fin → Shared → Prop := fun fin s' => match fin with
  | .done f => R (.ok f) s'
  | .again c' => c'.quiet = true ∧ ∀ Γ p, ctxOf V c' κ Γ → wpCode (model V.prog V.w) Γ R p s'
noncomputable def wpS (M : Model) (C : Ctx → Prop) (t : Sem Fin) (Q : Fin → Shared → Prop) (E : Value → Shared → Prop) (s : Shared) : Prop := ∀ Γ p, C Γ → Sem.wp M Γ t (fun a _ s' => Q a s') (fun e _ s' => E e s') p s
noncomputable def enOf (V : SV) : Kn → Result → Shared → Prop
  | .base => fun r s => match r with
    | .ok f => V.Q₀ (.done f) s
    | .error e => V.E₀ e s
  | .any => fun r s => match r with
    | .ok f => V.Q₀ (.done f) s
    | .error e => V.E₀ e s
  | .ret c _ k κ => fun r s => wpS (model V.prog V.w) (ctxOf V c κ) (k r)
      (match κ with
        | .any => V.Q₀
        | _ => qS V κ (enOf V κ)) (postE (enOf V κ)) s
noncomputable def qOf (V : SV) : Kn → Fin → Shared → Prop
  | .any => V.Q₀
  | κ => qS V κ (enOf V κ)
noncomputable def MeansS (V : SV) (c : Code) (κ : Kn) (t : Sem Fin) (s : Shared) : Prop := wpS (model V.prog V.w) (ctxOf V c κ) t (qOf V κ) (postE (enOf V κ)) s
noncomputable def codeS (V : SV) (c : Code) (κ : Kn) (s : Shared) : Prop := ∀ Γ p, ctxOf V c κ Γ → wpCode (model V.prog V.w) Γ (enOf V κ) p s
theorem enOf_ret (V : SV) (c : Code) (hd : Option Value) (k : Result → Sem Fin) (κ : Kn) (r : Result) (s : Shared) : enOf V (.ret c hd k κ) r s = MeansS V c κ (k r) s := by
  cases κ <;> rfl

noncomputable abbrev weightZ : Code → Nat := PySem.W.ZFast.zw1243936422450756474
noncomputable abbrev unitsZ : Code → Nat := PySem.W.ZFast.zw165980757501359005
theorem weightZ_eq : @Code.weight = weightZ := PySem.W.ZFast.ze1243936422450756474
theorem unitsZ_eq : @Code.cUnits = unitsZ := PySem.W.ZFast.ze165980757501359005
noncomputable def depthS (V : SV) : Kn → Nat
  | .base => V.dd
  | .any => V.dd
  | .ret c _ _ κ => match κ with
    | .any => V.dd
    | _ => depthS V κ + weightZ c
noncomputable def unitS (V : SV) : Kn → Nat
  | .base => V.uu
  | .any => V.uu
  | .ret c _ _ κ => match κ with
    | .any => V.uu
    | _ => unitS V κ + unitsZ c
theorem depthS_eq (V : SV) : ∀ κ, (arOf V κ).depth = depthS V κ
  | .base => rfl
  | .any => rfl
  | .ret c hd k .any => rfl
  | .ret c _ _ .base => by
    show V.dd + c.weight = V.dd + weightZ c
    rw [weightZ_eq]
  | .ret c _ _ (.ret c' hd' k' κ) => by
    show (arOf V (.ret c' hd' k' κ)).depth + c.weight = depthS V (.ret c' hd' k' κ) + weightZ c
    rw [depthS_eq V (.ret c' hd' k' κ), weightZ_eq]
theorem unitS_eq (V : SV) : ∀ κ, (arOf V κ).units = unitS V κ
  | .base => rfl
  | .any => rfl
  | .ret c hd k .any => rfl
  | .ret c _ _ .base => by
    show V.uu + c.cUnits = V.uu + unitsZ c
    rw [unitsZ_eq]
  | .ret c _ _ (.ret c' hd' k' κ) => by
    show (arOf V (.ret c' hd' k' κ)).units + c.cUnits = unitS V (.ret c' hd' k' κ) + unitsZ c
    rw [unitS_eq V (.ret c' hd' k' κ), unitsZ_eq]
noncomputable def enterFrameZ : Sem Unit := PySem.W.R.bindR PySem.W.ZFast.zw2211186353215096513 fun l => match Nat.beq l 1000 with
  | true => .pure ()
  | false => .unsupported "Mine.limit"
noncomputable def callFnTail (a : Addr) (fd : FuncData) (args : Args) (compiled : Str) : Sem Fin :=
  PySem.W.R.bindR (PySem.W.ZFast.zw9782568553167038054 fd args) fun b =>
  PySem.W.R.bindR (PySem.W.ZFast.zw11113344188204177931 fd.scope fd.globals fd.closure b (compiled ++ ".<locals>.") (some a) fd.code none fd.builtins) fun env =>
  PySem.W.R.bindR enterFrameZ fun _ => match fd.scope.isGenerator with
    | true => .unsupported "Mine.generator"
    | false => match fd.scope.isCoroutine with
      | true => .unsupported "Mine.coroutine"
      | false => .pure (.again (match fd.body with
        | .stmts b => .func b env
        | .expr e => .expr e env))
noncomputable def callFnZ (a : Addr) (fd : FuncData) (args : Args) : Sem Fin := match fd.code with
  | .none => callFnTail a fd args fd.qualname
  | c => PySem.W.R.bindR (PySem.W.ZFast.zw6609576154772507232 c 1) fun x => match x with
      | .str q _ => callFnTail a fd args q
      | _ => callFnTail a fd args fd.qualname
noncomputable def callZ (a : Addr) (args : Args) : Sem Fin := .load a none fun o => match o.data with
  | .func fd => callFnZ a fd args
  | _ => PySem.W.ZFast.zw2956504954644400088 (.ref a) args
noncomputable abbrev RestS := BT → Nat → Nat → SRes
noncomputable abbrev STy := Code → Kn → Sem Fin → RestS
noncomputable def numsFrom (f : Nat → Nat) : Nat → Nat → List Nat
  | _, 0 => []
  | k, n + 1 => f k :: numsFrom f (k + 1) n
section
variable (V : SV) (ad tk : Nat → Nat)
noncomputable def pickS (a : Addr) (T : BT) (o : Nat) (f : Obj → SRes) : SRes := match Nat.beq o 0 with
  | true => match V.kt.get a with
    | some x => f x
    | none => .fail 1 "kt"
  | false => match Nat.beq (o % 2) 1 with
    | true => match T.get (o / 2) with
      | some x => .same (.v (.ref a)) (.v (.ref (locOf V.mt V.n₀ ad (o / 2)))) (f x)
      | none => .fail 2 "T"
    | false => match V.old[o / 2 - 1]? with
      | some p => .same (.v (.ref a)) (.v (.ref p.1)) (f p.2)
      | none => .fail 3 "old"
noncomputable def outOf : Result → Except Value Fin
  | .ok f => .ok (.done f)
  | .error e => .error e
noncomputable def retK (ih : STy) (r : Result) : Kn → RestS
  | .base => fun T m k => .done (outOf r) T m k
  | .any => fun T m k => .done (outOf r) T m k
  | .ret c _ kk κ => ih c κ (kk r)
noncomputable def insAll : List Obj → BT → Nat → BT
  | [], T, _ => T
  | o :: l, T, m => insAll l (T.ins m o) (m + 1)
noncomputable def allIns : List Obj → BT → Nat → Bool
  | [], _, _ => true
  | o :: l, T, m => match (T.ins m o).get m with
    | some _ => allIns l (T.ins m o) (m + 1)
    | none => false
noncomputable def askS (T : BT) : List Addr → List Obj → List Nat → (List Obj → List Nat → SRes) → SRes
  | [], objs, os, f => f objs.reverse os.reverse
  | a :: l, objs, os, f => .need a fun o => pickS V ad a T o fun x => askS T l (x :: objs) (o :: os) f
noncomputable def askAll (T : BT) : List (List Obj → List Addr) → List Obj → List Nat → (List Obj → List Nat → SRes) → SRes
  | [], objs, os, f => f objs os
  | g :: gs, objs, os, f => askS V ad T (g objs) objs.reverse os.reverse fun objs os => askAll T gs objs os f
noncomputable def updAll : List Nat → List Obj → BT → Option BT
  | _, [], T => some T
  | [], _ :: _, _ => none
  | o :: os, x :: xs, T => match Nat.beq (o % 2) 1 with
    | true => updAll os xs (T.set (o / 2) fun _ => x)
    | false => none
noncomputable def around? (V : SV) (κ : Kn) (dm um : Nat) : Bool := match (arOf V κ).handled with
  | none => match Nat.ble (depthS V κ) dm with
    | true => Nat.ble (unitS V κ) um
    | false => false
  | some _ => false
noncomputable def memN (a : Nat) : List Nat → Bool
  | [] => false
  | b :: l => match Nat.beq a b with
    | true => true
    | false => memN a l
noncomputable def placesOk : List Nat → Bool
  | [] => true
  | o :: os => match Nat.beq (o % 2) 1 with
    | false => false
    | true => match memN o os with
      | true => false
      | false => placesOk os
noncomputable def okHook (V : SV) (κ : Kn) (dm um : Nat) (os : List Nat) : Bool := match around? V κ dm um with
  | false => false
  | true => placesOk os
noncomputable def enterN (ih : STy) (c : Code) (κ : Kn) : RestS := match c with
  | .call f args => match f with
    | .ref a => match Nat.ble (depthS V κ) 990 with
      | true => ih c κ (callZ a args)
      | false => fun _ _ _ => .fail 29 "depth"
    | _ => ih c κ (V.D c)
  | _ => ih c κ (V.D c)
noncomputable def sameAll : List (VO × VO) → SRes → SRes
  | [], x => x
  | e :: l, x => .same e.1 e.2 (sameAll l x)
noncomputable def hookS (ih : STy) (c : Code) (κ : Kn) (r : Hr) (T : BT) (m k : Nat) (objs : List Obj) (os : List Nat) : SRes := match r.got objs with
  | none => enterN V ih c κ T m k
  | some σ => match okHook V κ V.dm V.um os with
    | false => .fail 4 "depth"
    | true => match updAll os (σ.upd (numsFrom (fun i => tk i + V.t₁) k σ.nt) (numsFrom (fun i => ad i + V.n₀) m σ.nn)) T with
      | none => .fail 5 "upd"
      | some T' => match Nat.beq (σ.news (numsFrom (fun i => tk i + V.t₁) k σ.nt) (numsFrom (fun i => ad i + V.n₀) m σ.nn)).length σ.nn with
        | false => .fail 6 "news"
        | true => match allIns (σ.news (numsFrom (fun i => tk i + V.t₁) k σ.nt) (numsFrom (fun i => ad i + V.n₀) m σ.nn)) T' m with
          | true => sameAll σ.eqs (retK ih (σ.res (numsFrom (fun i => tk i + V.t₁) k σ.nt) (numsFrom (fun i => ad i + V.n₀) m σ.nn)) κ (insAll (σ.news (numsFrom (fun i => tk i + V.t₁) k σ.nt) (numsFrom (fun i => ad i + V.n₀) m σ.nn)) T' m) (m + σ.nn) (k + σ.nt))
          | false => .fail 7 "ins"
noncomputable def enterS (ih : STy) (c : Code) (κ : Kn) : RestS := match V.hook c with
  | none => enterN V ih c κ
  | some r => fun T m k => askS V ad T r.needs [] [] fun objs os => askAll V ad T r.more objs os fun objs os => hookS V ad tk ih c κ r T m k objs os
noncomputable def stepS (sp : StkF) (ih : STy) (c : Code) (κ : Kn) (t : Sem Fin) : RestS := match t with
  | .pure fin => match fin with
    | .done f => retK ih (.ok f) κ
    | .again c' => match κ with
      | .any => fun T m i => .done (.ok (.again c')) T m i
      | κ => match c'.quiet with
        | true => enterS V ad tk ih c' κ
        | false => fun _ _ _ => .fail 8 "again"
  | .raise e => retK ih (.error e) κ
  | .rule _ k => ih c κ (k ())
  | .at _ k => ih c κ (k ())
  | .point _ k => ih c κ (k ())
  | .ask k => ih c κ (k ⟨V.prog, V.P⟩)
  | .load a _ k => fun T m i => .need a fun o => pickS V ad a T o fun x => ih c κ (k x) T m i
  | .loadIfAlive a k => fun T m i => .need a fun o => pickS V ad a T o fun x => ih c κ (k (some x)) T m i
  | .alloc o k => fun T m i => match o.isFreed with
    | true => .fail 9 "freed"
    | false => match (T.ins m o).get m with
      | some _ => ih c κ (k (ad m + V.n₀)) (T.ins m o) (m + 1) i
      | none => .fail 10 "alloc"
  | .update a _ f k => fun T m i => .need a fun o => match Nat.beq (o % 2) 1 with
    | true => match T.get (o / 2) with
      | some x => match (f x).isFreed with
        | true => .fail 11 "update freed"
        | false => .same (.v (.ref a)) (.v (.ref (locOf V.mt V.n₀ ad (o / 2)))) (ih c κ (k ()) (T.set (o / 2) f) m i)
      | none => .fail 12 "update T"
    | false => .fail 13 "update"
  | .fresh k => fun T m i => ih c κ (k (tk i + V.t₁)) T m (i + 1)
  | .handled own k => match own with
    | false => ih c κ (k (arOf V κ).handled)
    | true => fun _ _ _ => .fail 14 "handled"
  | .call c' hd _ _ k => match okMark hd with
    | true => enterS V ad tk ih c' (.ret c hd k κ)
    | false => fun _ _ _ => .fail 15 "mark"
  | .unsupported w => fun _ _ _ => .fail 16 w
  | .stack k => match κ with
    | .any => fun _ _ _ => .fail 17 "stack"
    | κ => fun T m i => ih c κ (k ((c, (sp i).1 0) :: stkOf (sp i).1 (sp i).2 κ 1)) T m (i + 1)
  | .newGen .. => fun _ _ _ => .fail 18 "newGen"
  | .genState .. => fun _ _ _ => .fail 19 "genState"
  | .resume .. => fun _ _ _ => .fail 20 "resume"
  | .yield .. => fun _ _ _ => .fail 21 "yield"
  | .finish _ => fun _ _ _ => .fail 22 "finish"
  | .register .. => fun _ _ _ => .fail 23 "register"
  | .choose .. => fun _ _ _ => .fail 24 "choose"
  | .os .. => fun _ _ _ => .fail 25 "os"
  | .fork .. => fun _ _ _ => .fail 26 "fork"
  | .thread _ => fun _ _ _ => .fail 27 "thread"
  | .await .. => fun _ _ _ => .fail 28 "await"
noncomputable def simS (sp : StkF) : Nat → STy
  | 0 => fun _ _ _ _ _ _ => .fail 0 "fuel"
  | n + 1 => stepS V ad tk sp (simS sp n)
end
set_option genInjectivity true in
inductive SOut where
  | done (r : Except Value Fin) (T : BT) (m k : Nat)
  | fail (n : Nat) (what : String)
  | need (a : Addr)
noncomputable def SRes.run : SRes → List Nat → List (VO × VO) → SOut × List (VO × VO)
  | .same a b x, os, q => x.run os ((a, b) :: q)
  | .need a k, os, q => match os with
    | o :: os => (k o).run os q
    | [] => (.need a, q)
  | .done r T m k, _, q => (.done r T m k, q)
  | .fail n w, _, q => (.fail n w, q)
noncomputable def GoodS (Φ : Except Value Fin → BT → Nat → Nat → Prop) : List Nat → SRes → Prop
  | os, .same a b x => a = b ∧ GoodS Φ os x
  | os, .need _ k => match os with
    | o :: os => GoodS Φ os (k o)
    | [] => False
  | _, .done r T m k => Φ r T m k
  | _, .fail _ _ => False
noncomputable def SOut.ok : SOut → Bool
  | .done .. => true
  | _ => false
noncomputable def SOut.res : SOut → Except Value Fin
  | .done r _ _ _ => r
  | _ => .ok (.done .next)
noncomputable def SOut.T : SOut → BT
  | .done _ T _ _ => T
  | _ => .nil
noncomputable def SOut.m : SOut → Nat
  | .done _ _ m _ => m
  | _ => 0
theorem run_good {Φ : Except Value Fin → BT → Nat → Nat → Prop} : ∀ (x : SRes) (os : List Nat) (q : List (VO × VO)) (r : Except Value Fin) (T : BT) (m k : Nat) (q' : List (VO × VO)),
    x.run os q = (.done r T m k, q') → (∀ e ∈ q', e.1 = e.2) → Φ r T m k → GoodS Φ os x ∧ ∀ e ∈ q, e.1 = e.2
  | .done r' T' m' k', os, q, r, T, m, k, q', e, hq, hΦ => by
    simp only [SRes.run, Prod.mk.injEq, SOut.done.injEq] at e
    obtain ⟨⟨rfl, rfl, rfl, rfl⟩, rfl⟩ := e
    exact ⟨by simpa only [GoodS] using hΦ, hq⟩
  | .fail n w, os, q, r, T, m, k, q', e, hq, hΦ => by simp [SRes.run] at e
  | .same a b x, os, q, r, T, m, k, q', e, hq, hΦ => by
    rw [SRes.run] at e
    obtain ⟨h1, h2⟩ := run_good x os _ r T m k q' e hq hΦ
    exact ⟨by rw [GoodS]; exact ⟨h2 _ (.head _), h1⟩, fun e he => h2 e (.tail _ he)⟩
  | .need a f, [], q, r, T, m, k, q', e, hq, hΦ => by simp [SRes.run] at e
  | .need a f, o :: os, q, r, T, m, k, q', e, hq, hΦ => by
    rw [SRes.run] at e
    obtain ⟨h1, h2⟩ := run_good (f o) os _ r T m k q' e hq hΦ
    exact ⟨by rw [GoodS]; exact h1, h2⟩
theorem pairs_same : ∀ {q : List (VO × VO)}, q.map (·.1) = q.map (·.2) → ∀ e ∈ q, e.1 = e.2
  | [], _, _, h => nomatch h
  | p :: q, e, x, h => by
    rw [List.map_cons, List.map_cons] at e
    injection e with e1 e2
    rcases List.mem_cons.mp h with rfl | h
    · exact e1
    · exact pairs_same e2 x h
theorem good_of {Φ : Except Value Fin → BT → Nat → Nat → Prop} {x : SRes} {os : List Nat} (e : (x.run os []).1.ok = true) (hq : (x.run os []).2.map (·.1) = (x.run os []).2.map (·.2))
    (h : ∀ k, Φ (x.run os []).1.res (x.run os []).1.T (x.run os []).1.m k) : GoodS Φ os x := by
  cases z : x.run os [] with
  | mk o q =>
    cases o with
    | done r T m k =>
      rw [z] at hq
      have := h k
      rw [z] at this
      exact (run_good x os [] r T m k q z (pairs_same hq) this).1
    | fail => rw [z] at e; cases e
    | need => rw [z] at e; cases e
end Mine
end
section
open PySem PySem.W PyProof.Rows PySem.W.X Mine
set_option Elab.async false
set_option maxRecDepth 100000
set_option maxHeartbeats 4000000
set_option linter.unusedVariables false
namespace Mine
structure After (h h' : Heap) (needs : List Addr) (upd news : List Obj) (av : List Nat) : Prop where
  size : h.objs.size ≤ h'.objs.size
  keep : ∀ b o, h.get? b = some o → b ∉ needs.take upd.length → h'.get? b = some o
  upd : ∀ (i : Nat) a x, needs[i]? = some a → upd[i]? = some x → h'.get? a = some x
  news : ∀ (i : Nat) a o, av[i]? = some a → news[i]? = some o → h.objs.size ≤ a ∧ a < h'.objs.size ∧ h'.get? a = some o
  nd : av.Nodup
  ge : ∀ x ∈ av, h.objs.size ≤ x
noncomputable def KeepsBase (V : SV) (h : Heap) : Prop := V.h₀.objs.size ≤ h.objs.size ∧ ∀ b o, V.h₀.get? b = some o → b ∉ keysOf V.mt → h.get? b = some o
noncomputable def HookPost (V : SV) (h : Heap) (needs : List Addr) (σ : Hk) (res : Result) (s' : Shared) : Prop :=
  ∃ h' t' tv av, s' = ⟨h', V.g, V.d, t', V.os⟩ ∧ V.t₁ ≤ t' ∧ tv.length = σ.nt ∧ av.length = σ.nn ∧ (∀ x ∈ tv, V.t₁ ≤ x) ∧ res = σ.res tv av ∧ After h h' needs (σ.upd tv av) (σ.news tv av) av
noncomputable def HookOk (V : SV) (c : Code) (r : Hr) (objs : List Obj) (σ : Hk) : Prop :=
  ∀ (A : Around) (h : Heap) (t : Nat), A.handled = none → A.depth ≤ V.dm → A.units ≤ V.um → KeepsBase V h → V.t₁ ≤ t →
    (∀ (i : Nat) a o, (r.all objs)[i]? = some a → objs[i]? = some o → h.get? a = some o) → objs.length = (r.all objs).length → (∀ e ∈ σ.eqs, e.1 = e.2) → (r.all objs).Nodup → (∀ a ∈ r.all objs, V.kt.get a = none) →
    codeAny (model V.prog V.w) A c (HookPost V h (r.all objs) σ) ⟨h, V.g, V.d, t, V.os⟩
structure SV.Ok (V : SV) : Prop where
  par : V.w.params = V.P
  den : V.D = denote table
  n0 : V.n₀ ≤ V.h₀.objs.size
  base : ∀ h, KeepsBase V h → (∀ a o, V.kt.get a = some o → h.get? a = some o) ∧ ∀ p ∈ V.old, h.get? p.1 = some p.2
  mtAt : ∀ p ∈ V.mt, V.h₀.get? p.1 = some p.2
  mtNd : (keysOf V.mt).Nodup
  far : ∀ a, (a ∈ keysOf V.mt ∨ V.h₀.objs.size ≤ a) → V.kt.get a = none
  hooks : ∀ c r objs σ, V.hook c = some r → r.got objs = some σ → HookOk V c r objs σ
structure RepS (V : SV) (h : Heap) (pa : Nat → Nat) (T : BT) (m : Nat) : Prop where
  kb : KeepsBase V h
  own : ∀ i o, T.get i = some o → i < m ∧ h.get? (locOf V.mt V.n₀ pa i) = some o
  lt : ∀ i, i < m → locOf V.mt V.n₀ pa i < h.objs.size
  inj : ∀ i j, i < m → j < m → locOf V.mt V.n₀ pa i = locOf V.mt V.n₀ pa j → i = j
  fresh : ∀ i, V.mt.length ≤ i → i < m → V.h₀.objs.size ≤ locOf V.mt V.n₀ pa i
  mm : V.mt.length ≤ m
theorem loc_new {mt : List (Addr × Obj)} {n₀ i : Nat} (h : mt.length ≤ i) (ad : Nat → Nat) : locOf mt n₀ ad i = ad i + n₀ := by
  unfold locOf
  rw [List.getElem?_eq_none h]
theorem memN_of : ∀ {a : Nat} {l : List Nat}, memN a l = false → a ∉ l
  | a, [], _ => List.not_mem_nil
  | a, b :: l, h => by
    unfold memN at h
    split at h
    · cases h
    · rename_i q
      intro hm
      rcases List.mem_cons.mp hm with e | e
      · exact Nat.ne_of_beq_eq_false q e
      · exact memN_of h e
theorem placesOk_of : ∀ {l : List Nat}, placesOk l = true → (∀ o ∈ l, o % 2 = 1) ∧ l.Nodup
  | [], _ => ⟨fun _ h => (nomatch h), List.nodup_nil⟩
  | o :: l, h => by
    unfold placesOk at h
    split at h
    · cases h
    · rename_i q
      split at h
      · cases h
      · rename_i q2
        obtain ⟨a1, a2⟩ := placesOk_of h
        exact ⟨fun x hx => (List.mem_cons.mp hx).elim (fun e => e ▸ Nat.eq_of_beq_eq_true q) (a1 x), List.nodup_cons.mpr ⟨memN_of q2, a2⟩⟩
theorem loc_old {mt : List (Addr × Obj)} {n₀ i : Nat} (h : i < mt.length) (ad : Nat → Nat) : locOf mt n₀ ad i = mt[i].1 := by
  unfold locOf
  rw [List.getElem?_eq_getElem h]
theorem loc_congr {mt : List (Addr × Obj)} {n₀ i : Nat} {ad pa : Nat → Nat} (h : ad i = pa i) : locOf mt n₀ ad i = locOf mt n₀ pa i := by
  unfold locOf
  split
  · rfl
  · rw [h]
section
variable {V : SV} {h h' : Heap} {pa pa' : Nat → Nat} {T : BT} {m : Nat}
theorem RepS.get (D : RepS V h pa T m) {i : Nat} {o : Obj} (e : T.get i = some o) : h.get? (locOf V.mt V.n₀ pa i) = some o := (D.own i o e).2
theorem RepS.notBase (D : RepS V h pa T m) {i : Nat} (hi : i < m) {b : Addr} {o : Obj} (e : V.h₀.get? b = some o) (hb : b ∉ keysOf V.mt) : b ≠ locOf V.mt V.n₀ pa i := by
  intro q
  by_cases hm : i < V.mt.length
  · rw [loc_old hm] at q
    exact hb (q ▸ List.mem_map_of_mem (List.getElem_mem hm))
  · have := D.fresh i (Nat.le_of_not_lt hm) hi
    rw [← q] at this
    exact absurd (Heap.lt_size e) (Nat.not_lt.mpr this)
theorem RepS.mono (D : RepS V h pa T m) (e : ∀ i, i < m → pa' i = pa i) : RepS V h pa' T m := by
  refine ⟨D.kb, fun i o q => ?_, fun i hi => ?_, fun i j hi hj q => ?_, fun i hm hi => ?_, D.mm⟩
  · have z := D.own i o q
    refine ⟨z.1, ?_⟩
    rw [loc_congr (e i z.1)]; exact z.2
  · rw [loc_congr (e i hi)]; exact D.lt i hi
  · rw [loc_congr (e i hi), loc_congr (e j hj)] at q
    exact D.inj i j hi hj q
  · rw [loc_congr (e i hi)]; exact D.fresh i hm hi
theorem RepS.alloc (O : V.Ok) (D : RepS V h pa T m) {o : Obj} (hf : o.isFreed = false) (hg : ((T.ins m o).get m).isSome = true) (hp : ∀ i, i < m → pa' i = pa i) (hn : pa' m + V.n₀ = h.objs.size) :
    RepS V (h.push o) pa' (T.ins m o) (m + 1) := by
  have D := D.mono hp
  have lm : locOf V.mt V.n₀ pa' m = h.objs.size := by rw [loc_new D.mm, hn]
  refine ⟨⟨?_, fun b o' e hb => Heap.get?_push_of_some _ (D.kb.2 b o' e hb)⟩, fun i o' e => ?_, fun i hi => ?_, fun i j hi hj q => ?_, fun i hm hi => ?_, Nat.le_succ_of_le D.mm⟩
  · rw [Heap.size_push]; exact Nat.le_succ_of_le D.kb.1
  · rw [BT.get_ins o T m hg] at e
    by_cases hi : i = m
    · subst hi
      rw [if_pos rfl] at e
      cases e
      refine ⟨Nat.lt_succ_self _, ?_⟩
      rw [lm]; exact Heap.get?_push_size _ hf
    · rw [if_neg hi] at e
      have z := D.own i o' e
      exact ⟨Nat.lt_succ_of_lt z.1, Heap.get?_push_of_some _ z.2⟩
  · rw [Heap.size_push]
    by_cases e : i = m
    · subst e; rw [lm]; exact Nat.lt_succ_self _
    · exact Nat.lt_succ_of_lt (D.lt i (by omega))
  · by_cases e : i = m
    · by_cases e' : j = m
      · omega
      · have := D.lt j (by omega)
        rw [e, lm] at q
        exact absurd (q ▸ this) (Nat.lt_irrefl _)
    · by_cases e' : j = m
      · have := D.lt i (by omega)
        rw [e', lm] at q
        exact absurd (q ▸ this) (Nat.lt_irrefl _)
      · exact D.inj i j (by omega) (by omega) q
  · by_cases e : i = m
    · subst e; rw [lm]; exact D.kb.1
    · exact D.fresh i hm (by omega)
theorem RepS.update (D : RepS V h pa T m) {i : Nat} {o : Obj} {f : Obj → Obj} (e : T.get i = some o) (hf : (f o).isFreed = false) : RepS V (h.update (locOf V.mt V.n₀ pa i) f) pa (T.set i f) m := by
  have z := D.own i o e
  have hs : Heap.SameBut (locOf V.mt V.n₀ pa i) h (h.update (locOf V.mt V.n₀ pa i) f) := Heap.SameBut.update ..
  refine ⟨⟨by rw [hs.1]; exact D.kb.1, fun b o' e' hb => (hs.2 b (D.notBase z.1 e' hb)).trans (D.kb.2 b o' e' hb)⟩, fun j o' e' => ?_, fun j hj => by rw [hs.1]; exact D.lt j hj, D.inj, D.fresh, D.mm⟩
  rw [BT.get_set] at e'
  by_cases hj : j = i
  · subst hj
    rw [if_pos rfl, e] at e'
    cases e'
    refine ⟨z.1, ?_⟩
    first | exact Heap.get?_update_self f z.2 hf | exact Heap.get?_update_self _ z.2 hf
  · rw [if_neg hj] at e'
    have y := D.own j o' e'
    exact ⟨y.1, (hs.2 _ fun q => hj (D.inj j i y.1 z.1 q)).trans y.2⟩
end
theorem insAll_get : ∀ (l : List Obj) (T : BT) (m : Nat), allIns l T m = true → ∀ i, (insAll l T m).get i = if m ≤ i ∧ i < m + l.length then l[i - m]? else T.get i
  | [], T, m, _, i => by
    rw [insAll]
    split
    · rename_i h; simp at h; omega
    · rfl
  | o :: l, T, m, h, i => by
    rw [allIns] at h
    rw [insAll]
    split at h
    · rename_i o' e
      rw [insAll_get l _ (m + 1) h i]
      by_cases h1 : m + 1 ≤ i ∧ i < m + 1 + l.length
      · rw [if_pos h1, if_pos ⟨by omega, by simp; omega⟩]
        have : i - m = (i - (m + 1)) + 1 := by omega
        rw [this, List.getElem?_cons_succ]
      · rw [if_neg h1, BT.get_ins o T m (by rw [e]; rfl)]
        by_cases h2 : i = m
        · subst h2
          rw [if_pos rfl, if_pos ⟨Nat.le_refl _, by simp⟩, Nat.sub_self]; rfl
        · rw [if_neg h2, if_neg]
          simp only [List.length_cons]
          omega
    · cases h
section
variable {V : SV} {h h' : Heap} {pa : Nat → Nat} {T T' : BT} {m : Nat}
theorem updAll_own (inj : ∀ i j, i < m → j < m → locOf V.mt V.n₀ pa i = locOf V.mt V.n₀ pa j → i = j) : ∀ (os : List Nat) (upd : List Obj) (needs : List Addr) (T T' : BT),
    updAll os upd T = some T' → needs.length = os.length → (∀ (i : Nat) a o, needs[i]? = some a → os[i]? = some o → (o % 2 = 1) → o / 2 < m ∧ a = locOf V.mt V.n₀ pa (o / 2)) →
    (∀ (i : Nat) a x, needs[i]? = some a → upd[i]? = some x → h'.get? a = some x) →
    (∀ j o, T.get j = some o → j < m ∧ (h'.get? (locOf V.mt V.n₀ pa j) = some o ∨ locOf V.mt V.n₀ pa j ∈ needs.take upd.length)) →
    ∀ j o, T'.get j = some o → j < m ∧ h'.get? (locOf V.mt V.n₀ pa j) = some o
  | os, [], needs, T, T', e, hl, hp, hu, ho => by
    have : T = T' := by
      cases os <;> simpa [updAll] using e
    subst this
    intro j o q
    have z := ho j o q
    refine ⟨z.1, ?_⟩
    rcases z.2 with z | z
    · exact z
    · simp at z
  | [], x :: xs, needs, T, T', e, hl, hp, hu, ho => by simp [updAll] at e
  | p :: os, x :: xs, [], T, T', e, hl, hp, hu, ho => by simp at hl
  | p :: os, x :: xs, a :: needs, T, T', e, hl, hp, hu, ho => by
    rw [updAll] at e
    split at e
    · rename_i hb
      have hodd := Nat.eq_of_beq_eq_true hb
      obtain ⟨hm, ha⟩ := hp 0 a p rfl rfl hodd
      have hx := hu 0 a x rfl rfl
      refine updAll_own inj os xs needs _ T' e (by simpa using hl) (fun i a o h1 h2 => hp (i + 1) a o (by simpa using h1) (by simpa using h2)) (fun i a x h1 h2 => hu (i + 1) a x (by simpa using h1) (by simpa using h2)) ?_
      intro j o q
      rw [BT.get_set] at q
      by_cases hj : j = p / 2
      · subst hj
        rw [if_pos rfl] at q
        cases g : T.get (p / 2) with
        | none => rw [g] at q; cases q
        | some o' =>
          rw [g] at q
          cases q
          exact ⟨hm, .inl (ha ▸ hx)⟩
      · rw [if_neg hj] at q
        have z := ho j o q
        refine ⟨z.1, ?_⟩
        rcases z.2 with z2 | z2
        · exact .inl z2
        · rw [List.length_cons, List.take_succ_cons] at z2
          rcases List.mem_cons.mp z2 with z3 | z3
          · rw [ha] at z3
            exact absurd (inj j (p / 2) z.1 hm z3) hj
          · exact .inr z3
    · cases e
theorem updAll_take {os : List Nat} {upd : List Obj} : ∀ {os : List Nat} {upd : List Obj} {T T' : BT}, updAll os upd T = some T' → ∀ i o, i < upd.length → os[i]? = some o → o % 2 = 1
  | os, [], T, T', e => fun i o h => by simp at h
  | [], x :: xs, T, T', e => by simp [updAll] at e
  | p :: os, x :: xs, T, T', e => by
    rw [updAll] at e
    split at e
    · rename_i hb
      intro i o h q
      cases i with
      | zero => cases q; exact Nat.eq_of_beq_eq_true hb
      | succ i => exact updAll_take (os := os) (upd := xs) e i o (by simpa using h) (by simpa using q)
    · cases e
theorem RepS.hook (O : V.Ok) (D : RepS V h pa T m) {os : List Nat} {needs : List Addr} {upd news : List Obj} {av : List Nat} {nn : Nat} {pa' : Nat → Nat} (A : After h h' needs upd news av) (hu : updAll os upd T = some T') (hl : needs.length = os.length)
    (hp : ∀ (i : Nat) a o, needs[i]? = some a → os[i]? = some o → (o % 2 = 1) → o / 2 < m ∧ a = locOf V.mt V.n₀ pa (o / 2)) (hi : allIns news T' m = true) (hav : av.length = nn) (hnn : news.length = nn)
    (e1 : ∀ i, i < m → pa' i = pa i) (e2 : ∀ i a, av[i]? = some a → pa' (m + i) + V.n₀ = a) : RepS V h' pa' (insAll news T' m) (m + nn) := by
  have own' : ∀ j o, T'.get j = some o → j < m ∧ h'.get? (locOf V.mt V.n₀ pa j) = some o := by
    refine updAll_own D.inj os upd needs T T' hu hl hp A.upd fun j o q => ?_
    have z := D.own j o q
    refine ⟨z.1, ?_⟩
    by_cases hm : locOf V.mt V.n₀ pa j ∈ needs.take upd.length
    · exact .inr hm
    · exact .inl (A.keep _ _ z.2 hm)
  have ln : ∀ i, m ≤ i → i < m + nn → ∃ a o, av[i - m]? = some a ∧ news[i - m]? = some o ∧ locOf V.mt V.n₀ pa' i = a := fun i h1 h2 => by
    have l1 : i - m < av.length := by omega
    have l2 : i - m < news.length := by omega
    refine ⟨_, _, List.getElem?_eq_getElem l1, List.getElem?_eq_getElem l2, ?_⟩
    rw [loc_new (Nat.le_trans D.mm h1)]
    have := e2 (i - m) _ (List.getElem?_eq_getElem l1)
    rw [Nat.add_sub_cancel' h1] at this
    exact this
  refine ⟨⟨Nat.le_trans D.kb.1 A.size, fun b o e hb => A.keep b o (D.kb.2 b o e hb) fun hm => ?_⟩, fun i o e => ?_, fun i hi' => ?_, fun i j hi' hj q => ?_, fun i hm hi' => ?_, Nat.le_add_right_of_le D.mm⟩
  · obtain ⟨i, hi', q⟩ := List.mem_take_iff_getElem.mp hm
    have hi2 : i < upd.length := Nat.lt_of_lt_of_le hi' (Nat.min_le_left ..)
    have hi3 : i < needs.length := Nat.lt_of_lt_of_le hi' (Nat.min_le_right ..)
    have ho := updAll_take (os := os) (upd := upd) hu i (os[i]'(hl ▸ hi3)) hi2 (List.getElem?_eq_getElem _)
    obtain ⟨z1, z2⟩ := hp i _ _ (List.getElem?_eq_getElem hi3) (List.getElem?_eq_getElem (hl ▸ hi3)) ho
    exact D.notBase z1 e hb (by rw [← z2, ← q])
  · rw [insAll_get news T' m hi i] at e
    by_cases c : m ≤ i ∧ i < m + news.length
    · rw [if_pos c] at e
      obtain ⟨a, o', q1, q2, q3⟩ := ln i c.1 (by omega)
      rw [q2] at e
      cases e
      exact ⟨by omega, by rw [q3]; exact (A.news _ _ _ q1 q2).2.2⟩
    · rw [if_neg c] at e
      have z := own' i o e
      refine ⟨by omega, ?_⟩
      rw [loc_congr (e1 i z.1)]; exact z.2
  · by_cases c : i < m
    · rw [loc_congr (e1 i c)]; exact Nat.lt_of_lt_of_le (D.lt i c) A.size
    · obtain ⟨a, o', q1, q2, q3⟩ := ln i (Nat.le_of_not_lt c) hi'
      rw [q3]; exact (A.news _ _ _ q1 q2).2.1
  · by_cases c : i < m
    · by_cases c' : j < m
      · rw [loc_congr (e1 i c), loc_congr (e1 j c')] at q
        exact D.inj i j c c' q
      · obtain ⟨a, o', q1, q2, q3⟩ := ln j (Nat.le_of_not_lt c') hj
        have l1 := (A.news _ _ _ q1 q2).1
        have l2 := D.lt i c
        rw [loc_congr (e1 i c), q3] at q
        rw [q] at l2
        exact absurd (Nat.lt_of_lt_of_le l2 l1) (Nat.lt_irrefl _)
    · obtain ⟨a, o', q1, q2, q3⟩ := ln i (Nat.le_of_not_lt c) hi'
      by_cases c' : j < m
      · have l1 := (A.news _ _ _ q1 q2).1
        have l2 := D.lt j c'
        rw [loc_congr (e1 j c'), q3] at q
        rw [← q] at l2
        exact absurd (Nat.lt_of_lt_of_le l2 l1) (Nat.lt_irrefl _)
      · obtain ⟨a', o'', q1', q2', q3'⟩ := ln j (Nat.le_of_not_lt c') hj
        rw [q3, q3'] at q
        subst q
        have l1 := (List.getElem?_eq_some_iff.mp q1).1
        have := (List.getElem?_inj l1 A.nd).mp (q1.trans q1'.symm)
        omega
  · by_cases c : i < m
    · rw [loc_congr (e1 i c)]; exact D.fresh i hm c
    · obtain ⟨a, o', q1, q2, q3⟩ := ln i (Nat.le_of_not_lt c) hi'
      rw [q3]; exact Nat.le_trans D.kb.1 (A.news _ _ _ q1 q2).1
end
end Mine
end
section
open PySem PySem.W PyProof.Rows PySem.W.X Mine
set_option Elab.async false
set_option maxRecDepth 100000
set_option maxHeartbeats 4000000
set_option linter.unusedVariables false
namespace Mine
noncomputable def PhiS (V : SV) (ad : Nat → Nat) (r : Except Value PySem.Fin) (T : BT) (m k : Nat) : Prop := ∀ h t, RepS V h ad T m → V.t₁ ≤ t → match r with
  | .ok fin => V.Q₀ fin ⟨h, V.g, V.d, t, V.os⟩
  | .error e => V.E₀ e ⟨h, V.g, V.d, t, V.os⟩
noncomputable def Every (m k : Nat) (pa pt : Nat → Nat) (pz : StkF) (P : (Nat → Nat) → (Nat → Nat) → StkF → Prop) : Prop := ∀ ad tk sp, (∀ i, i < m → ad i = pa i) → (∀ i, i < k → tk i = pt i) → (∀ i, i < k → sp i = pz i) → P ad tk sp
theorem good_need {Φ : Except Value PySem.Fin → BT → Nat → Nat → Prop} {os : List Nat} {a : Addr} {k : Nat → SRes} : GoodS Φ os (.need a k) = match os with | o :: os => GoodS Φ os (k o) | [] => False := by
  cases os <;> rw [GoodS]
theorem enterFrameZ_sound {M : Model} {Γ : Ctx} {A : Around} {β : Type} {f : Unit → Sem β} {Q : β → Pos → Shared → Prop} {E : Value → Pos → Shared → Prop} {p : Pos} {s : Shared} (hΓ : Γ.In A) (hd : A.depth < recursionLimit)
    (h : Sem.wp M Γ (enterFrameZ.bind f) Q E p s) : Sem.wp M Γ (enterFrame.bind f) Q E p s := by
  have e : enterFrameZ = Sem.bind currentRecursionLimit fun l => match Nat.beq l 1000 with
    | true => .pure ()
    | false => .unsupported "Mine.limit" := by
    unfold enterFrameZ
    rw [← PySem.W.R.bindR_eq, ← PySem.W.ZFast.ze2211186353215096513] <;> rfl
  rw [e, Sem.wp_bind, Sem.wp_bind] at h
  rw [Sem.wp_bind]
  have hsum : ((((Γ.code, p) :: Γ.below).map (·.1)).map (·.frames)).sum + ((((Γ.code, p) :: Γ.below).map (·.1)).filter Code.isCreation).length < recursionLimit := by
    have hge := frameCount_ge ((Γ.code, p) :: Γ.below)
    rw [frameCount_cons] at hge
    have := hΓ.2.1
    omega
  have hlt : ¬ ((((Γ.code, p) :: Γ.below).map (·.1)).map (·.frames)).sum ≥ recursionLimit := by omega
  have hlt' : ¬ ((((Γ.code, p) :: Γ.below).map (·.1)).map (·.frames)).sum + ((((Γ.code, p) :: Γ.below).map (·.1)).filter Code.isCreation).length ≥ recursionLimit := by omega
  show Sem.wp M Γ (Sem.bind stack fun st => Sem.bind currentRecursionLimit fun limit => _) _ _ p s
  rw [Sem.wp_bind]
  show Sem.wp M Γ (Sem.bind currentRecursionLimit fun limit => _) _ _ p s
  rw [Sem.wp_bind]
  refine Sem.wp_mono _ _ _ (fun l p' s' q => ?_) (fun _ _ _ q => q) _ _ h
  have hl : l = recursionLimit := by
    split at q
    · rename_i hb; exact Nat.eq_of_beq_eq_true hb
    · rw [Sem.wp_unsupported] at q; cases q
  subst hl
  have q' : Sem.wp M Γ (f ()) Q E p' s' := by
    have hb : Nat.beq recursionLimit 1000 = true := by decide
    rw [hb] at q
    exact q
  show Sem.wp M Γ ((if nearTheLimitUnderAClaim (((Γ.code, p) :: Γ.below).map (·.1)) (((((Γ.code, p) :: Γ.below).map (·.1)).map (·.frames)).sum + ((((Γ.code, p) :: Γ.below).map (·.1)).filter Code.isCreation).length) recursionLimit = true then _ else _)) _ _ p' s'
  rw [if_neg (by rw [not_nearTheLimit hΓ hd]; exact Bool.false_ne_true)]
  show Sem.wp M Γ ((if ((((Γ.code, p) :: Γ.below).map (·.1)).map (·.frames)).sum ≥ recursionLimit then _ else _)) _ _ p' s'
  rw [if_neg hlt]
  show Sem.wp M Γ ((if ((((Γ.code, p) :: Γ.below).map (·.1)).map (·.frames)).sum + ((((Γ.code, p) :: Γ.below).map (·.1)).filter Code.isCreation).length ≥ recursionLimit then _ else _)) _ _ p' s'
  rw [if_neg hlt']
  exact q'
theorem callFnTail_sound {M : Model} {Γ : Ctx} {A : Around} {a : Addr} {fd : FuncData} {args : Args} {compiled : Str} {Q : PySem.Fin → Pos → Shared → Prop} {E : Value → Pos → Shared → Prop} {p : Pos} {s : Shared} (hΓ : Γ.In A) (hd : A.depth < recursionLimit)
    (h : Sem.wp M Γ (callFnTail a fd args compiled) Q E p s) : Sem.wp M Γ (Sem.bind (bindArgs fd args) fun b =>
      Sem.bind (newFunctionEnv fd.scope fd.globals fd.closure b (compiled ++ ".<locals>.") (some a) fd.code none fd.builtins) fun env => Sem.bind enterFrame fun _ => 
      match fd.scope.isGenerator, fd.scope.isCoroutine with
      | false, false => again (match fd.body with | .stmts b => .func b env | .expr e => .expr e env)
      | true, false => do ret (← newGenerator (match fd.body with | .stmts b => .func b env | .expr e => .expr e env) fd.name fd.qualname)
      | false, true => do ret (← newCoroutine (match fd.body with | .stmts b => .func b env | .expr e => .expr e env) fd.name fd.qualname)
      | true, true => do ret (← newAsyncGenerator (match fd.body with | .stmts b => .func b env | .expr e => .expr e env) fd.name fd.qualname)) Q E p s := by
  unfold callFnTail at h
  rw [← PySem.W.R.bindR_eq, ← PySem.W.ZFast.ze9782568553167038054, ← PySem.W.ZFast.ze11113344188204177931, Sem.wp_bind] at h
  rw [Sem.wp_bind]
  refine Sem.wp_mono _ _ _ (fun b p₂ s₂ h₂ => ?_) (fun _ _ _ q => q) _ _ h
  rw [Sem.wp_bind] at h₂ ⊢
  refine Sem.wp_mono _ _ _ (fun env p₃ s₃ h₃ => ?_) (fun _ _ _ q => q) _ _ h₂
  have h₄ := enterFrameZ_sound hΓ hd h₃
  rw [Sem.wp_bind] at h₄ ⊢
  refine Sem.wp_mono _ _ _ (fun _ p₅ s₅ h₅ => ?_) (fun _ _ _ q => q) _ _ h₄
  cases hg : fd.scope.isGenerator with
  | true => rw [hg] at h₅; dsimp only at h₅; rw [Sem.wp_unsupported] at h₅; cases h₅
  | false =>
    cases hc : fd.scope.isCoroutine with
    | true => rw [hg, hc] at h₅; dsimp only at h₅; rw [Sem.wp_unsupported] at h₅; cases h₅
    | false =>
      rw [hg, hc] at h₅
      exact h₅
theorem callFnZ_sound {M : Model} {Γ : Ctx} {A : Around} {a : Addr} {fd : FuncData} {args : Args} {Q : PySem.Fin → Pos → Shared → Prop} {E : Value → Pos → Shared → Prop} {p : Pos} {s : Shared} (hΓ : Γ.In A) (hd : A.depth < recursionLimit)
    (h : Sem.wp M Γ (callFnZ a fd args) Q E p s) : Sem.wp M Γ (callFunction a fd args) Q E p s := by
  unfold callFnZ at h
  rw [← PySem.W.R.bindR_eq, ← PySem.W.ZFast.ze6609576154772507232] at h
  unfold callFunction
  dsimp only
  cases e : fd.code
  case none =>
    rw [e] at h
    have z := callFnTail_sound hΓ hd h
    rw [e] at z
    exact z
  all_goals
    rw [e] at h
    dsimp only at h
    rw [Sem.wp_bind] at h
    refine (Sem.wp_bind _ _ _ _ _ _ _ _).symm ▸ ?_
    refine Sem.wp_mono _ _ _ (fun x p₂ s₂ h₂ => ?_) (fun _ _ _ q => q) _ _ h
    cases x <;> (have z := callFnTail_sound hΓ hd h₂; rw [e] at z; exact z)
theorem callZ_sound {prog : Program} {w : World} {A : Around} {Γ : Ctx} {a : Addr} {args : Args} {Q : PySem.Fin → Shared → Prop} {E : Value → Shared → Prop} {p : Pos} {s : Shared} (hin : Γ.In A) (hd' : A.depth < recursionLimit)
    (h : Sem.wp (model prog w) Γ (callZ a args) (fun a _ s' => Q a s') (fun e _ s' => E e s') p s) : Sem.wp (model prog w) Γ (denote table (.call (.ref a) args)) (fun a _ s' => Q a s') (fun e _ s' => E e s') p s := by
  unfold callZ at h
  rw [Sem.wp_load] at h
  obtain ⟨o, ho, h⟩ := h
  show Sem.wp _ Γ (callAny (.ref a) args) _ _ p s
  show Sem.wp _ Γ (.load a none fun o => _) _ _ p s
  rw [Sem.wp_load]
  refine ⟨o, ho, ?_⟩
  rw [Sem.wp_bind, Sem.wp_pure]
  dsimp only
  have other : Sem.wp (model prog w) Γ (PySem.W.ZFast.zw2956504954644400088 (.ref a) args) (fun a _ s' => Q a s') (fun e _ s' => E e s') p s → Sem.wp (model prog w) Γ (callAny (.ref a) args) (fun a _ s' => Q a s') (fun e _ s' => E e s') p s := fun h => by
    rw [PySem.W.ZFast.ze2956504954644400088]; exact h
  cases hdt : o.data with
  | func fd =>
    rw [hdt] at h
    exact callFnZ_sound hin hd' h
  | _ =>
    rw [hdt] at h
    have h := other h
    change Sem.wp _ Γ (.load a none fun o => _) _ _ p s at h
    rw [Sem.wp_load] at h
    obtain ⟨o', ho', h⟩ := h
    rw [ho] at ho'
    cases ho'
    rw [Sem.wp_bind, Sem.wp_pure] at h
    dsimp only at h
    rw [hdt] at h
    exact h
theorem code_of_means {V : SV} (hD : V.D = denote table) {c : Code} {κ : Kn} (hκ : κ ≠ .any) {s : Shared} (h : MeansS V c κ (V.D c) s) : codeS V c κ s := by
  intro Γ p hΓ
  rw [wpCode_iff_wp]
  have hc : Γ.code = c := by
    cases κ with
    | any => exact absurd rfl hκ
    | base => exact hΓ.1
    | ret => exact hΓ.1
  rw [hc]
  have z := h Γ p hΓ
  rw [hD] at z
  show Sem.wp _ Γ (denote table c) _ _ p s
  refine Sem.wp_mono _ Γ _ (fun fin p' s' h' => ?_) (fun _ _ _ h' => h') p s z
  have h' : qS V κ (enOf V κ) fin s' := by
    cases κ with
    | any => exact absurd rfl hκ
    | base => exact h'
    | ret => exact h'
  cases fin with
  | done f => exact h'
  | again c' =>
    refine ⟨h'.1, h'.2 (Γ.goto c') p' ?_⟩
    cases κ with
    | any => exact absurd rfl hκ
    | base => exact ⟨rfl, hΓ.2.1.goto c', hΓ.2.2⟩
    | ret => exact ⟨rfl, hΓ.2.1.goto c', hΓ.2.2⟩
theorem ctx_in {V : SV} {c : Code} : ∀ {κ : Kn} {Γ : Ctx}, ctxOf V c κ Γ → Γ.In (match κ with | .any => An V.dd V.uu | κ => (arOf V κ).under c)
  | .any, Γ, h => h
  | .base, Γ, h => h.1 ▸ h.2.1.in
  | .ret .., Γ, h => h.1 ▸ h.2.1.in
theorem ar_ret {V : SV} {c : Code} {hd : Option Value} {k : Result → Sem PySem.Fin} : ∀ {κ : Kn}, arOf V (.ret c hd k κ) = (match κ with | .any => An V.dd V.uu | κ => (arOf V κ).under c).mark hd
  | .any => rfl
  | .base => rfl
  | .ret .. => rfl
theorem ctx_handled {V : SV} {c : Code} {κ : Kn} {Γ : Ctx} (h : ctxOf V c κ Γ) : Γ.handled = (arOf V κ).handled := by
  cases κ with
  | any => exact h.1
  | base => exact h.2.1.1
  | ret => exact h.2.1.1
theorem good_all {Φ : Except Value PySem.Fin → BT → Nat → Nat → Prop} {os : List Nat} : ∀ {l : List (VO × VO)} {x : SRes}, GoodS Φ os (sameAll l x) → (∀ e ∈ l, e.1 = e.2) ∧ GoodS Φ os x
  | [], x, h => ⟨fun _ h => (nomatch h), h⟩
  | e :: l, x, h => by
    rw [sameAll, GoodS] at h
    obtain ⟨h1, h2⟩ := good_all h.2
    exact ⟨fun e' he => by rcases List.mem_cons.mp he with rfl | he; exact h.1; exact h1 _ he, h2⟩
section
variable {V : SV} (O : V.Ok)
include O in
theorem pick_sound {T : BT} {m k : Nat} {pa pt : Nat → Nat} {pz : StkF} {h : Heap} {a o : Nat} {os : List Nat} {F : (Nat → Nat) → (Nat → Nat) → StkF → Obj → SRes} (D : RepS V h pa T m)
    (H : Every m k pa pt pz fun ad tk sp => GoodS (PhiS V ad) os (pickS V ad a T o (F ad tk sp))) :
    ∃ x, h.get? a = some x ∧ ((o % 2 = 1) → o / 2 < m ∧ a = locOf V.mt V.n₀ pa (o / 2) ∧ T.get (o / 2) = some x) ∧ Every m k pa pt pz fun ad tk sp => GoodS (PhiS V ad) os (F ad tk sp x) := by
  have H0 := H pa pt pz (fun _ _ => rfl) (fun _ _ => rfl) (fun _ _ => rfl)
  unfold pickS at H0 H
  split at H0
  · rename_i hb
    rw [hb] at H
    dsimp only at H
    split at H0
    · rename_i x e
      have z := (O.base h D.kb).1 _ _ e
      refine ⟨x, z, fun q => ?_, fun ad tk sp ha ht hs => ?_⟩
      · have := Nat.eq_of_beq_eq_true hb
        subst this; cases q
      · have := H ad tk sp ha ht hs
        rw [e] at this
        exact this
    · cases H0
  · rename_i hb
    rw [hb] at H
    dsimp only at H
    split at H0
    · rename_i hb2
      rw [hb2] at H
      dsimp only at H
      split at H0
      · rename_i x e
        have z := D.own _ _ e
        have ha : a = locOf V.mt V.n₀ pa (o / 2) := by
          rw [GoodS] at H0
          exact Value.ref.inj (VO.v.inj H0.1)
        refine ⟨x, ha ▸ z.2, fun _ => ⟨z.1, ha, e⟩, fun ad tk sp ha ht hs => ?_⟩
        have := H ad tk sp ha ht hs
        rw [e] at this
        dsimp only at this
        rw [GoodS] at this
        exact this.2
      · cases H0
    · rename_i hb2
      rw [hb2] at H
      dsimp only at H
      split at H0
      · rename_i p e
        have ha : a = p.1 := by
          rw [GoodS] at H0
          exact Value.ref.inj (VO.v.inj H0.1)
        refine ⟨p.2, ?_, fun q => ?_, fun ad tk sp ha ht hs => ?_⟩
        · rw [ha]; exact (O.base h D.kb).2 p (List.mem_of_getElem? e)
        · exact absurd q (Nat.ne_of_beq_eq_false hb2)
        · have := H ad tk sp ha ht hs
          rw [e] at this
          dsimp only at this
          rw [GoodS] at this
          exact this.2
      · cases H0
include O in
theorem ask_sound {T : BT} {m k : Nat} {pa pt : Nat → Nat} {pz : StkF} {h : Heap} (D : RepS V h pa T m) : ∀ (l : List Addr) (objs : List Obj) (ps : List Nat) (os : List Nat) {F : (Nat → Nat) → (Nat → Nat) → StkF → List Obj → List Nat → SRes},
    (Every m k pa pt pz fun ad tk sp => GoodS (PhiS V ad) os (askS V ad T l objs ps (F ad tk sp))) →
    ∃ objs' ps' os', objs'.length = l.length ∧ ps'.length = l.length ∧ (∀ (i : Nat) a o, l[i]? = some a → objs'[i]? = some o → h.get? a = some o) ∧
      (∀ (i : Nat) a o, l[i]? = some a → ps'[i]? = some o → (o % 2 = 1) → o / 2 < m ∧ a = locOf V.mt V.n₀ pa (o / 2)) ∧ Every m k pa pt pz fun ad tk sp => GoodS (PhiS V ad) os' (F ad tk sp (objs.reverse ++ objs') (ps.reverse ++ ps'))
  | [], objs, ps, os, F, H => ⟨[], [], os, rfl, rfl, fun i a o e => by simp at e, fun i a o e => by simp at e, by simpa [askS] using H⟩
  | a :: l, objs, ps, os, F, H => by
    have H0 := H pa pt pz (fun _ _ => rfl) (fun _ _ => rfl) (fun _ _ => rfl)
    unfold askS at H0
    rw [good_need] at H0
    cases os with
    | nil => cases H0
    | cons o os =>
      have H1 : Every m k pa pt pz fun ad tk sp => GoodS (PhiS V ad) os (pickS V ad a T o fun x => askS V ad T l (x :: objs) (o :: ps) (F ad tk sp)) := fun ad tk sp ha ht hs => by
        have := H ad tk sp ha ht hs
        unfold askS at this
        rw [good_need] at this
        exact this
      obtain ⟨x, hx, hT, H2⟩ := pick_sound O D H1
      obtain ⟨objs', ps', os', e1, e2, f1, f2, H3⟩ := ask_sound D l (x :: objs) (o :: ps) os H2
      refine ⟨x :: objs', o :: ps', os', by simp [e1], by simp [e2], fun i b ob q1 q2 => ?_, fun i b ob q1 q2 q3 => ?_, ?_⟩
      · cases i with
        | zero => cases q1; cases q2; exact hx
        | succ i => exact f1 i b ob (by simpa using q1) (by simpa using q2)
      · cases i with
        | zero => cases q1; cases q2; exact ⟨(hT q3).1, (hT q3).2.1⟩
        | succ i => exact f2 i b ob (by simpa using q1) (by simpa using q2) q3
      · simpa using H3
include O in
theorem askAll_sound {T : BT} {m k : Nat} {pa pt : Nat → Nat} {pz : StkF} {h : Heap} (D : RepS V h pa T m) : ∀ (gs : List (List Obj → List Addr)) (acc : List Addr) (objs : List Obj) (ps os : List Nat) {F : (Nat → Nat) → (Nat → Nat) → StkF → List Obj → List Nat → SRes},
    objs.length = acc.length → ps.length = acc.length → (∀ (i : Nat) a o, acc[i]? = some a → objs[i]? = some o → h.get? a = some o) → (∀ (i : Nat) a o, acc[i]? = some a → ps[i]? = some o → (o % 2 = 1) → o / 2 < m ∧ a = locOf V.mt V.n₀ pa (o / 2)) →
    (Every m k pa pt pz fun ad tk sp => GoodS (PhiS V ad) os (askAll V ad T gs objs ps (F ad tk sp))) →
    ∃ objs' ps' os', objs'.length = (allOf objs' gs acc).length ∧ ps'.length = (allOf objs' gs acc).length ∧ (∀ (i : Nat) a o, (allOf objs' gs acc)[i]? = some a → objs'[i]? = some o → h.get? a = some o) ∧
      (∀ (i : Nat) a o, (allOf objs' gs acc)[i]? = some a → ps'[i]? = some o → (o % 2 = 1) → o / 2 < m ∧ a = locOf V.mt V.n₀ pa (o / 2)) ∧ objs'.take objs.length = objs ∧ Every m k pa pt pz fun ad tk sp => GoodS (PhiS V ad) os' (F ad tk sp objs' ps')
  | [], acc, objs, ps, os, F, e1, e2, f1, f2, H => ⟨objs, ps, os, e1, e2, f1, f2, List.take_length, H⟩
  | g :: gs, acc, objs, ps, os, F, e1, e2, f1, f2, H => by
    obtain ⟨objs2, ps2, os2, g1, g2, k1, k2, H4⟩ := ask_sound O D (g objs) objs.reverse ps.reverse os (F := fun ad tk sp objs os => askAll V ad T gs objs os (F ad tk sp)) H
    rw [List.reverse_reverse, List.reverse_reverse] at H4
    obtain ⟨objs', ps', os', q1, q2, q3, q4, q5, q6⟩ := askAll_sound D gs (acc ++ g objs) (objs ++ objs2) (ps ++ ps2) os2 (by rw [List.length_append, List.length_append, e1, g1]) (by rw [List.length_append, List.length_append, e2, g2])
      (fun i a o z1 z2 => by
        by_cases hi : i < acc.length
        · rw [List.getElem?_append_left hi] at z1
          rw [List.getElem?_append_left (e1 ▸ hi)] at z2
          exact f1 i a o z1 z2
        · rw [List.getElem?_append_right (Nat.le_of_not_lt hi)] at z1
          rw [List.getElem?_append_right (e1 ▸ Nat.le_of_not_lt hi), e1] at z2
          exact k1 _ a o z1 z2)
      (fun i a o z1 z2 z3 => by
        by_cases hi : i < acc.length
        · rw [List.getElem?_append_left hi] at z1
          rw [List.getElem?_append_left (e2 ▸ hi)] at z2
          exact f2 i a o z1 z2 z3
        · rw [List.getElem?_append_right (Nat.le_of_not_lt hi)] at z1
          rw [List.getElem?_append_right (e2 ▸ Nat.le_of_not_lt hi), e2] at z2
          exact k2 _ a o z1 z2 z3) H4
    have q7 : objs'.take objs.length = objs := by
      have := congrArg (List.take objs.length) q5
      rw [List.take_take, List.take_left, Nat.min_eq_left (by rw [List.length_append]; exact Nat.le_add_right ..)] at this
      exact this
    have ea : allOf objs' (g :: gs) acc = allOf objs' gs (acc ++ g objs) := by
      show allOf objs' gs (acc ++ g (objs'.take acc.length)) = _
      rw [← e1, q7]
    rw [← ea] at q1 q2 q3 q4
    exact ⟨objs', ps', os', q1, q2, q3, q4, q7, q6⟩
include O in
theorem places_far {T : BT} {m : Nat} {pa : Nat → Nat} {h : Heap} (D : RepS V h pa T m) {l : List Addr} {ps : List Nat} (e2 : ps.length = l.length) (hp : placesOk ps = true)
    (f2 : ∀ (i : Nat) a o, l[i]? = some a → ps[i]? = some o → (o % 2 = 1) → o / 2 < m ∧ a = locOf V.mt V.n₀ pa (o / 2)) : l.Nodup ∧ ∀ a ∈ l, V.kt.get a = none := by
  obtain ⟨ho, hnd⟩ := placesOk_of hp
  have hl : l = ps.map fun o => locOf V.mt V.n₀ pa (o / 2) := by
    refine List.ext_getElem? fun i => ?_
    rw [List.getElem?_map]
    by_cases hi : i < l.length
    · have h1 := List.getElem?_eq_getElem hi
      have h2 := List.getElem?_eq_getElem (e2 ▸ hi : i < ps.length)
      rw [h1, h2, (f2 i _ _ h1 h2 (ho _ (List.mem_of_getElem? h2))).2]
      rfl
    · rw [List.getElem?_eq_none (Nat.le_of_not_lt hi), List.getElem?_eq_none (by rw [e2]; exact Nat.le_of_not_lt hi)]
      rfl
  have hlt : ∀ o ∈ ps, o / 2 < m := fun o hm => by
    obtain ⟨i, hi⟩ := List.getElem?_of_mem hm
    have : i < l.length := e2 ▸ (List.getElem?_eq_some_iff.mp hi).1
    exact (f2 i _ o (List.getElem?_eq_getElem this) hi (ho o hm)).1
  subst hl
  refine ⟨?_, fun a ha => ?_⟩
  · refine List.pairwise_map.mpr (hnd.imp_of_mem ?_)
    intro a b ha hb hab e
    refine hab ?_
    have := D.inj _ _ (hlt a ha) (hlt b hb) e
    have h1 := ho a ha
    have h2 := ho b hb
    omega
  · obtain ⟨o, hm, rfl⟩ := List.mem_map.mp ha
    refine O.far _ ?_
    by_cases hk : o / 2 < V.mt.length
    · left
      rw [loc_old hk]
      exact List.mem_map_of_mem (f := (·.1)) (List.getElem_mem hk)
    · exact .inr (D.fresh _ (Nat.le_of_not_lt hk) (hlt o hm))
theorem numsFrom_get (f : Nat → Nat) : ∀ (n k i : Nat), (numsFrom f k n)[i]? = if i < n then some (f (k + i)) else none
  | 0, k, i => by simp [numsFrom]
  | n + 1, k, i => by
    cases i with
    | zero => simp [numsFrom]
    | succ i =>
      rw [numsFrom, List.getElem?_cons_succ, numsFrom_get f n (k + 1) i]
      by_cases h : i < n
      · rw [if_pos h, if_pos (by omega)]; congr 2; omega
      · rw [if_neg h, if_neg (by omega)]
theorem numsFrom_eq {f : Nat → Nat} {n k : Nat} {l : List Nat} (hl : l.length = n) (h : ∀ i x, l[i]? = some x → f (k + i) = x) : numsFrom f k n = l := by
  apply List.ext_getElem?
  intro i
  rw [numsFrom_get]
  by_cases q : i < n
  · rw [if_pos q]
    have : i < l.length := by omega
    rw [List.getElem?_eq_getElem this, h i _ (List.getElem?_eq_getElem this)]
  · rw [if_neg q, List.getElem?_eq_none (by omega)]
variable (ih : (Nat → Nat) → (Nat → Nat) → StkF → STy)
  (IH : ∀ c κ t T m k os h toks pa pt pz, (Every m k pa pt pz fun ad tk sp => GoodS (PhiS V ad) os (ih ad tk sp c κ t T m k)) → RepS V h pa T m → V.t₁ ≤ toks → MeansS V c κ t ⟨h, V.g, V.d, toks, V.os⟩)
include IH
theorem ret_sound {r : Result} {κ : Kn} {T : BT} {m k toks : Nat} {os : List Nat} {pa pt : Nat → Nat} {pz : StkF} {h : Heap}
    (H : Every m k pa pt pz fun ad tk sp => GoodS (PhiS V ad) os (retK (ih ad tk sp) r κ T m k)) (D : RepS V h pa T m) (ht : V.t₁ ≤ toks) : enOf V κ r ⟨h, V.g, V.d, toks, V.os⟩ := by
  cases κ with
  | base =>
    have := H pa pt pz (fun _ _ => rfl) (fun _ _ => rfl) (fun _ _ => rfl)
    unfold retK at this
    dsimp only at this
    rw [GoodS] at this
    have := this h toks D ht
    cases r <;> exact this
  | any =>
    have := H pa pt pz (fun _ _ => rfl) (fun _ _ => rfl) (fun _ _ => rfl)
    unfold retK at this
    dsimp only at this
    rw [GoodS] at this
    have := this h toks D ht
    cases r <;> exact this
  | ret c hd kk κ =>
    rw [enOf_ret]
    exact IH _ _ _ _ _ _ os h toks pa pt pz H D ht
include O
theorem enterN_sound {c : Code} {κ : Kn} (hκ : κ ≠ .any) {T : BT} {m k toks : Nat} {os : List Nat} {pa pt : Nat → Nat} {pz : StkF} {h : Heap}
    (H : Every m k pa pt pz fun ad tk sp => GoodS (PhiS V ad) os (enterN V (ih ad tk sp) c κ T m k)) (D : RepS V h pa T m) (ht : V.t₁ ≤ toks) :
    codeS V c κ ⟨h, V.g, V.d, toks, V.os⟩ := by
  have H0 := H pa pt pz (fun _ _ => rfl) (fun _ _ => rfl) (fun _ _ => rfl)
  have plain : (Every m k pa pt pz fun ad tk sp => GoodS (PhiS V ad) os (ih ad tk sp c κ (V.D c) T m k)) → codeS V c κ ⟨h, V.g, V.d, toks, V.os⟩ := fun H => by
    exact code_of_means O.den hκ (IH _ _ _ _ _ _ _ h toks pa pt pz H D ht)
  cases c with
  | call f args =>
    cases f with
    | ref a =>
      dsimp only [enterN] at H H0
      cases hb : Nat.ble (depthS V κ) 990 with
      | false => rw [hb] at H0; cases H0
      | true =>
        rw [hb] at H
        have z := IH _ _ _ _ _ _ _ h toks pa pt pz H D ht
        have hd : (match κ with | .any => An V.dd V.uu | κ => (arOf V κ).under (.call (.ref a) args)).depth < recursionLimit := by
          have : (match κ with | .any => An V.dd V.uu | κ => (arOf V κ).under (.call (.ref a) args)).depth = (arOf V κ).depth := by
            cases κ with
            | any => exact absurd rfl hκ
            | base => rfl
            | ret => rfl
          rw [this, depthS_eq]
          exact Nat.lt_of_le_of_lt (Nat.le_of_ble_eq_true hb) (by decide)
        intro Γ p hΓ
        rw [wpCode_iff_wp]
        have hc : Γ.code = .call (.ref a) args := by
          cases κ with
          | any => exact absurd rfl hκ
          | base => exact hΓ.1
          | ret => exact hΓ.1
        rw [hc]
        refine Sem.wp_mono _ Γ _ (fun fin p' s' h' => ?_) (fun _ _ _ h' => h') p _ (callZ_sound (ctx_in hΓ) hd (z Γ p hΓ))
        have h' : qS V κ (enOf V κ) fin s' := by
          cases κ with
          | any => exact absurd rfl hκ
          | base => exact h'
          | ret => exact h'
        cases fin with
        | done f => exact h'
        | again c' =>
          refine ⟨h'.1, h'.2 (Γ.goto c') p' ?_⟩
          cases κ with
          | any => exact absurd rfl hκ
          | base => exact ⟨rfl, hΓ.2.1.goto c', hΓ.2.2⟩
          | ret => exact ⟨rfl, hΓ.2.1.goto c', hΓ.2.2⟩
    | _ => exact plain H
  | _ => exact plain H
theorem hook_sound {c : Code} {κ : Kn} (hκ : κ ≠ .any) {r : Hr} {T : BT} {m k toks : Nat} {objs : List Obj} {ps os : List Nat} {pa pt : Nat → Nat} {pz : StkF} {h : Heap} (hh : V.hook c = some r)
    (H : Every m k pa pt pz fun ad tk sp => GoodS (PhiS V ad) os (hookS V ad tk (ih ad tk sp) c κ r T m k objs ps)) (D : RepS V h pa T m) (ht : V.t₁ ≤ toks) (e1 : objs.length = (r.all objs).length) (e2 : ps.length = (r.all objs).length)
    (f1 : ∀ (i : Nat) a o, (r.all objs)[i]? = some a → objs[i]? = some o → h.get? a = some o) (f2 : ∀ (i : Nat) a o, (r.all objs)[i]? = some a → ps[i]? = some o → (o % 2 = 1) → o / 2 < m ∧ a = locOf V.mt V.n₀ pa (o / 2)) :
    codeS V c κ ⟨h, V.g, V.d, toks, V.os⟩ := by
  cases hg : r.got objs with
  | none =>
    refine enterN_sound O ih IH hκ (os := os) (pa := pa) (pt := pt) (pz := pz) (T := T) (m := m) (k := k) (fun ad tk sp a b hs => ?_) D ht
    have := H ad tk sp a b hs
    unfold hookS at this
    rw [hg] at this
    exact this
  | some σ =>
    have H0 := H pa pt pz (fun _ _ => rfl) (fun _ _ => rfl) (fun _ _ => rfl)
    unfold hookS at H0
    rw [hg] at H0
    dsimp only at H0
    cases hb : okHook V κ V.dm V.um ps with
    | false => rw [hb] at H0; cases H0
    | true =>
      have ha : around? V κ V.dm V.um = true := by
        unfold okHook at hb
        split at hb
        · cases hb
        · assumption
      have hpl : placesOk ps = true := by
        unfold okHook at hb
        split at hb
        · cases hb
        · exact hb
      obtain ⟨hnd, hfar⟩ := places_far O D e2 hpl f2
      have har : (arOf V κ).handled = none ∧ (arOf V κ).depth ≤ V.dm ∧ (arOf V κ).units ≤ V.um := by
        unfold around? at ha
        split at ha
        · rename_i q1
          split at ha
          · rename_i q2
            exact ⟨q1, depthS_eq V κ ▸ Nat.le_of_ble_eq_true q2, unitS_eq V κ ▸ Nat.le_of_ble_eq_true ha⟩
          · cases ha
        · cases ha
      have heq : ∀ e ∈ σ.eqs, e.1 = e.2 := by
        rw [hb] at H0
        dsimp only at H0
        split at H0
        · cases H0
        · split at H0
          · cases H0
          · split at H0
            · exact (good_all H0).1
            · cases H0
      intro Γ p hΓ
      have hcb : Γ.code = c ∧ Γ.Below (arOf V κ) := by
        cases κ with
        | any => exact absurd rfl hκ
        | base => exact ⟨hΓ.1, hΓ.2.1⟩
        | ret => exact ⟨hΓ.1, hΓ.2.1⟩
      refine wpCode_mono (fun res s' hp => ?_) (O.hooks c r objs σ hh hg (arOf V κ) h toks har.1 har.2.1 har.2.2 D.kb ht f1 e1 heq hnd hfar Γ p hcb.1 hcb.2)
      obtain ⟨h', t', tv, av, rfl, ht', ltv, lav, htv, rfl, A⟩ := hp
      let pa' : Nat → Nat := fun i => if i < m then pa i else (av.getD (i - m) 0) - V.n₀
      let pt' : Nat → Nat := fun i => if i < k then pt i else (tv.getD (i - k) 0) - V.t₁
      have pa1 : ∀ i, i < m → pa' i = pa i := fun i q => if_pos q
      have pt1 : ∀ i, i < k → pt' i = pt i := fun i q => if_pos q
      have H2 : Every (m + σ.nn) (k + σ.nt) pa' pt' (fun i => if i < k then pz i else default) fun ad tk sp => ∃ T', updAll ps (σ.upd tv av) T = some T' ∧ (σ.news tv av).length = σ.nn ∧ allIns (σ.news tv av) T' m = true ∧
          GoodS (PhiS V ad) os (retK (ih ad tk sp) (σ.res tv av) κ (insAll (σ.news tv av) T' m) (m + σ.nn) (k + σ.nt)) := fun ad tk sp qa qt hs => by
        have := H ad tk sp (fun i q => (qa i (by omega)).trans (pa1 i q)) (fun i q => (qt i (by omega)).trans (pt1 i q)) (fun i q => (hs i (by omega)).trans (if_pos q))
        have n1 : numsFrom (fun i => tk i + V.t₁) k σ.nt = tv := numsFrom_eq ltv fun i x q => by
          have l := (List.getElem?_eq_some_iff.mp q).1
          show tk (k + i) + V.t₁ = x
          rw [qt (k + i) (by omega)]
          show (if k + i < k then pt (k + i) else (tv.getD (k + i - k) 0) - V.t₁) + V.t₁ = x
          rw [if_neg (by omega), Nat.add_sub_cancel_left, List.getD_eq_getElem?_getD, q, Option.getD_some]
          exact Nat.sub_add_cancel (htv x (List.mem_of_getElem? q))
        have n2 : (∃ x, x ∈ σ.news tv av) ∨ (σ.news tv av = []) := by
          cases σ.news tv av with
          | nil => exact .inr rfl
          | cons x l => exact .inl ⟨x, .head _⟩
        unfold hookS at this
        rw [hg] at this
        dsimp only at this
        rw [hb, n1] at this
        dsimp only at this
        have n3 : numsFrom (fun i => ad i + V.n₀) m σ.nn = av := numsFrom_eq lav fun i x q => by
          have l := (List.getElem?_eq_some_iff.mp q).1
          show ad (m + i) + V.n₀ = x
          rw [qa (m + i) (by omega)]
          show (if m + i < m then pa (m + i) else (av.getD (m + i - m) 0) - V.n₀) + V.n₀ = x
          rw [if_neg (by omega), Nat.add_sub_cancel_left, List.getD_eq_getElem?_getD, q, Option.getD_some]
          exact Nat.sub_add_cancel (Nat.le_trans (Nat.le_trans O.n0 D.kb.1) (A.ge x (List.mem_of_getElem? q)))
        rw [n3] at this
        split at this
        · cases this
        · rename_i T' eT
          split at this
          · cases this
          · rename_i hb
            split at this
            · rename_i hi
              exact ⟨T', eT, Nat.eq_of_beq_eq_true hb, hi, (good_all this).2⟩
            · cases this
      obtain ⟨T', eT, eN, eI, _⟩ := H2 pa' pt' (fun i => if i < k then pz i else default) (fun _ _ => rfl) (fun _ _ => rfl) (fun _ _ => rfl)
      refine ret_sound ih IH (os := os) (k := k + σ.nt) (pa := pa') (pt := pt') (pz := fun i => if i < k then pz i else default) (fun ad tk sp qa qt hs => ?_) (RepS.hook O D A eT e2.symm f2 eI lav eN pa1 fun i a q => ?_) ht'
      · obtain ⟨T'', eT', _, _, z⟩ := H2 ad tk sp qa qt hs
        rw [eT] at eT'
        cases eT'
        exact z
      · show (if m + i < m then pa (m + i) else (av.getD (m + i - m) 0) - V.n₀) + V.n₀ = a
        rw [if_neg (by omega), Nat.add_sub_cancel_left, List.getD_eq_getElem?_getD, q, Option.getD_some]
        exact Nat.sub_add_cancel (Nat.le_trans (Nat.le_trans O.n0 D.kb.1) (A.ge a (List.mem_of_getElem? q)))
theorem enter_sound {c : Code} {κ : Kn} (hκ : κ ≠ .any) {T : BT} {m k toks : Nat} {os : List Nat} {pa pt : Nat → Nat} {pz : StkF} {h : Heap}
    (H : Every m k pa pt pz fun ad tk sp => GoodS (PhiS V ad) os (enterS V ad tk (ih ad tk sp) c κ T m k)) (D : RepS V h pa T m) (ht : V.t₁ ≤ toks) :
    codeS V c κ ⟨h, V.g, V.d, toks, V.os⟩ := by
  unfold enterS at H
  cases hh : V.hook c with
  | none =>
    rw [hh] at H
    exact enterN_sound O ih IH hκ H D ht
  | some r =>
    rw [hh] at H
    obtain ⟨objs', ps', os', e1, e2, f1, f2, H3⟩ := ask_sound O D r.needs [] [] os H
    rw [List.reverse_nil, List.reverse_nil, List.nil_append, List.nil_append] at H3
    obtain ⟨objs2, ps2, os2, g1, g2, k1, k2, _, H4⟩ := askAll_sound O D r.more r.needs objs' ps' os' e1 e2 f1 f2 H3
    exact hook_sound O ih IH hκ hh H4 D ht g1 g2 k1 k2
theorem step_soundS : ∀ c κ t T m k os h toks pa pt pz, (Every m k pa pt pz fun ad tk sp => GoodS (PhiS V ad) os (stepS V ad tk sp (ih ad tk sp) c κ t T m k)) → RepS V h pa T m → V.t₁ ≤ toks → MeansS V c κ t ⟨h, V.g, V.d, toks, V.os⟩ := by
  intro c κ t T m i os h toks pa pt pz H D ht
  have H0 := H pa pt pz (fun _ _ => rfl) (fun _ _ => rfl) (fun _ _ => rfl)
  cases t with
  | pure fin =>
    cases fin with
    | done f =>
      have z := ret_sound ih IH (r := .ok f) (os := os) H D ht
      intro Γ p hΓ
      cases κ <;> exact z
    | again c' =>
      by_cases hκ : κ = .any
      · subst hκ
        dsimp only [stepS] at H0
        rw [GoodS] at H0
        exact fun Γ p hΓ => H0 h toks D ht
      · have e : ∀ ad tk sp, stepS V ad tk sp (ih ad tk sp) c κ (.pure (.again c')) T m i = (match c'.quiet with
          | true => enterS V ad tk (ih ad tk sp) c' κ
          | false => fun _ _ _ => .fail 8 "again") T m i := fun ad tk sp => by
          cases κ with
          | any => exact absurd rfl hκ
          | base => rfl
          | ret => rfl
        cases q : c'.quiet with
        | false => rw [e, q] at H0; cases H0
        | true =>
          have z := enter_sound O ih IH hκ (c := c') (κ := κ) (os := os) (fun ad tk sp ha hb hs => by
            have := H ad tk sp ha hb hs
            dsimp only at this ⊢
            rw [e, q] at this
            exact this) D ht
          intro Γ p hΓ
          cases κ with
          | any => exact absurd rfl hκ
          | base => exact ⟨q, z⟩
          | ret => exact ⟨q, z⟩
  | raise e => exact fun Γ p hΓ => ret_sound ih IH (r := .error e) (os := os) H D ht
  | rule tag k => exact fun Γ p hΓ => IH _ _ _ _ _ _ os h toks pa pt pz H D ht Γ p hΓ
  | «at» q k => exact fun Γ p hΓ => IH _ _ _ _ _ _ os h toks pa pt pz H D ht Γ q hΓ
  | point l k => exact fun Γ p hΓ => IH _ _ _ _ _ _ os h toks pa pt pz H D ht Γ p hΓ
  | ask k =>
    intro Γ p hΓ
    show Sem.wp _ _ (k ⟨V.prog, V.w.params⟩) _ _ _ _
    rw [O.par]
    exact IH _ _ _ _ _ _ os h toks pa pt pz H D ht Γ p hΓ
  | load a q k =>
    simp only [stepS] at H H0
    rw [good_need] at H0
    cases os with
    | nil => cases H0
    | cons o os =>
      have H1 : Every m i pa pt pz fun ad tk sp => GoodS (PhiS V ad) os (pickS V ad a T o fun x => ih ad tk sp c κ (k x) T m i) := fun ad tk sp ha hb hs => by
        have := H ad tk sp ha hb hs
        dsimp only at this ⊢
        rw [good_need] at this
        exact this
      obtain ⟨x, hx, _, H2⟩ := pick_sound O D H1
      exact fun Γ p hΓ => ⟨x, hx, IH _ _ _ _ _ _ _ h toks pa pt pz H2 D ht Γ p hΓ⟩
  | loadIfAlive a k =>
    simp only [stepS] at H H0
    rw [good_need] at H0
    cases os with
    | nil => cases H0
    | cons o os =>
      have H1 : Every m i pa pt pz fun ad tk sp => GoodS (PhiS V ad) os (pickS V ad a T o fun x => ih ad tk sp c κ (k (some x)) T m i) := fun ad tk sp ha hb hs => by
        have := H ad tk sp ha hb hs
        dsimp only at this ⊢
        rw [good_need] at this
        exact this
      obtain ⟨x, hx, _, H2⟩ := pick_sound O D H1
      intro Γ p hΓ
      show Sem.wp _ _ (k (h.get? a)) _ _ _ _
      rw [hx]
      exact IH _ _ _ _ _ _ _ h toks pa pt pz H2 D ht Γ p hΓ
  | alloc o k =>
    simp only [stepS] at H H0
    cases hf : o.isFreed with
    | true => rw [hf] at H0; cases H0
    | false =>
      rw [hf] at H H0
      dsimp only at H H0
      cases hg : (T.ins m o).get m with
      | none => rw [hg] at H0; cases H0
      | some x =>
        rw [hg] at H
        dsimp only at H
        let pa' : Nat → Nat := fun j => if j < m then pa j else h.objs.size - V.n₀
        have pm : pa' m + V.n₀ = h.objs.size := by
          show (if m < m then pa m else h.objs.size - V.n₀) + V.n₀ = _
          rw [if_neg (Nat.lt_irrefl _)]
          exact Nat.sub_add_cancel (Nat.le_trans O.n0 D.kb.1)
        have D' := RepS.alloc (pa' := pa') O D hf (by rw [hg]; rfl) (fun j q => if_pos q) pm
        refine fun Γ p hΓ => IH _ _ _ _ _ i os _ toks pa' pt pz (fun ad tk sp ha hb hs => ?_) D' ht Γ p hΓ
        have := H ad tk sp (fun j q => (ha j (by omega)).trans (if_pos q)) hb hs
        dsimp only at this ⊢
        rw [ha m (Nat.lt_succ_self _), pm] at this
        exact this
  | update a q f k =>
    simp only [stepS] at H H0
    rw [good_need] at H0
    cases os with
    | nil => cases H0
    | cons o os =>
      dsimp only at H0
      have H1 : Every m i pa pt pz fun ad tk sp => GoodS (PhiS V ad) os (match Nat.beq (o % 2) 1 with
        | true => match T.get (o / 2) with
          | some x => match (f x).isFreed with
            | true => .fail 11 "update freed"
            | false => .same (.v (.ref a)) (.v (.ref (locOf V.mt V.n₀ ad (o / 2)))) (ih ad tk sp c κ (k ()) (T.set (o / 2) f) m i)
          | none => .fail 12 "update T"
        | false => .fail 13 "update") := fun ad tk sp ha hb hs => by
        have := H ad tk sp ha hb hs
        dsimp only at this ⊢
        rw [good_need] at this
        exact this
      have H2 := H1 pa pt pz (fun _ _ => rfl) (fun _ _ => rfl) (fun _ _ => rfl)
      dsimp only at H2
      cases hb : Nat.beq (o % 2) 1 with
      | false => rw [hb] at H2; cases H2
      | true =>
        rw [hb] at H1 H2
        dsimp only at H1 H2
        cases hT : T.get (o / 2) with
        | none => rw [hT] at H2; cases H2
        | some x =>
          rw [hT] at H1 H2
          dsimp only at H1 H2
          cases hf : (f x).isFreed with
          | true => rw [hf] at H2; cases H2
          | false =>
            rw [hf] at H1 H2
            dsimp only at H1 H2
            rw [GoodS] at H2
            obtain ⟨q1, _⟩ := H2
            have q1 := Value.ref.inj (VO.v.inj q1)
            subst q1
            refine fun Γ p hΓ => ⟨by rw [D.get hT]; rfl, IH _ _ _ _ _ i os _ toks pa pt pz (fun ad tk sp ha hb hs => ?_) (D.update hT hf) ht Γ p hΓ⟩
            have := H1 ad tk sp ha hb hs
            dsimp only at this ⊢
            rw [GoodS] at this
            exact this.2
  | fresh k =>
    let pt' : Nat → Nat := fun j => if j < i then pt j else toks - V.t₁
    refine fun Γ p hΓ => IH _ _ _ _ _ (i + 1) os h (toks + 1) pa pt' (fun j => if j < i then pz j else default) (fun ad tk sp ha hb hs => ?_) D (Nat.le_succ_of_le ht) Γ p hΓ
    have := H ad tk sp ha (fun j q => (hb j (by omega)).trans (if_pos q)) (fun j q => (hs j (by omega)).trans (if_pos q))
    simp only [stepS] at this
    have e : tk i + V.t₁ = toks := by
      rw [hb i (Nat.lt_succ_self _)]
      show (if i < i then pt i else toks - V.t₁) + V.t₁ = _
      rw [if_neg (Nat.lt_irrefl _)]
      exact Nat.sub_add_cancel ht
    rw [e] at this
    exact this
  | handled own k =>
    cases own with
    | true => cases H0
    | false =>
      intro Γ p hΓ
      show Sem.wp _ _ (k Γ.handled) _ _ _ _
      rw [ctx_handled hΓ]
      exact IH _ _ _ _ _ _ os h toks pa pt pz H D ht Γ p hΓ
  | call c' hd g l k =>
    cases q : okMark hd with
    | false => simp only [stepS, q] at H0; cases H0
    | true =>
      simp only [stepS, q] at H
      have hnb : hd ≠ some byPass := by
        intro e
        subst e
        simp [okMark] at q
      have z := enter_sound O ih IH (κ := .ret c hd k κ) (fun e => by cases e) H D ht
      intro Γ p hΓ
      have y := ctx_in hΓ
      have z2 := y.enter c' hd p hnb
      have hctx : ctxOf V c' (.ret c hd k κ) (Γ.enter c' hd p) := by
        rw [← ar_ret (k := k)] at z2
        refine ⟨rfl, z2, ?_⟩
        cases κ with
        | any => trivial
        | base => exact ⟨p, Γ.below, by show (Γ.code, p) :: Γ.below = _; rw [hΓ.1], trivial⟩
        | ret => exact ⟨p, Γ.below, by show (Γ.code, p) :: Γ.below = _; rw [hΓ.1], hΓ.2.2⟩
      refine wpCode_mono (fun r s' x => ?_) (z (Γ.enter c' hd p) p hctx)
      rw [enOf_ret] at x
      exact x Γ p hΓ
  | unsupported => cases H0
  | stack k =>
    by_cases hκ : κ = .any
    · subst hκ; cases H0
    · have e : ∀ ad tk sp, stepS V ad tk sp (ih ad tk sp) c κ (.stack k) T m i = ih ad tk sp c κ (k ((c, (sp i).1 0) :: stkOf (sp i).1 (sp i).2 κ 1)) T m (i + 1) := fun ad tk sp => by
        cases κ with
        | any => exact absurd rfl hκ
        | base => rfl
        | ret => rfl
      intro Γ p hΓ
      have hc : Γ.code = c ∧ stkIs κ Γ.below := by
        cases κ with
        | any => exact absurd rfl hκ
        | base => exact ⟨hΓ.1, hΓ.2.2⟩
        | ret => exact ⟨hΓ.1, hΓ.2.2⟩
      obtain ⟨fz, rest, hz1, hz2⟩ := stkIs_of κ Γ.below 1 (fun _ => p) hc.2
      show Sem.wp _ _ (k ((Γ.code, p) :: Γ.below)) _ _ _ _
      rw [hc.1, hz2]
      refine IH _ _ _ _ _ (i + 1) os h toks pa (fun j => if j < i then pt j else 0) (fun j => if j < i then pz j else (fz, rest)) (fun ad tk sp ha hb hs => ?_) D ht Γ p hΓ
      have := H ad tk sp ha (fun j q => (hb j (by omega)).trans (if_pos q)) (fun j q => (hs j (by omega)).trans (if_pos q))
      dsimp only at this ⊢
      rw [e, hs i (Nat.lt_succ_self _)] at this
      simp only [Nat.lt_irrefl, if_false] at this
      rw [hz1 0 (by omega)] at this
      exact this
  | newGen => cases H0
  | genState => cases H0
  | resume => cases H0
  | yield => cases H0
  | finish => cases H0
  | register => cases H0
  | choose => cases H0
  | os => cases H0
  | fork => cases H0
  | thread => cases H0
  | await => cases H0
end
theorem simS_sound {V : SV} (O : V.Ok) : ∀ n c κ t T m k os h toks pa pt pz, (Every m k pa pt pz fun ad tk sp => GoodS (PhiS V ad) os (simS V ad tk sp n c κ t T m k)) → RepS V h pa T m → V.t₁ ≤ toks → MeansS V c κ t ⟨h, V.g, V.d, toks, V.os⟩
  | 0 => fun _ _ _ _ _ _ _ _ _ pa pt pz H _ _ => by have := H pa pt pz (fun _ _ => rfl) (fun _ _ => rfl) (fun _ _ => rfl); cases this
  | n + 1 => step_soundS O (fun ad tk sp => simS V ad tk sp n) (fun c κ t T m k os h toks pa pt pz H D ht => simS_sound O n c κ t T m k os h toks pa pt pz H D ht)
end Mine
end
section
open PySem PySem.W PyProof.Rows PySem.W.X Mine
set_option Elab.async false
set_option maxRecDepth 100000
set_option maxHeartbeats 4000000
set_option linter.unusedVariables false
namespace Mine
noncomputable def ktBound : KT → Nat
  | .nil => 0
  | .node v l r => match v with
    | some _ => max 1 (max (2 * ktBound l) (2 * ktBound r + 1))
    | none => max (2 * ktBound l) (2 * ktBound r + 1)
theorem mod_two {i : Nat} (h : ¬ i % 2 = 1) : i % 2 = 0 := (Nat.mod_two_eq_zero_or_one i).resolve_right h
theorem half_pos {i : Nat} (hi : ¬ i = 0) (h : ¬ i % 2 = 1) : 1 ≤ i / 2 := by
  cases e : i / 2 with
  | zero => exact absurd (by rw [← Nat.div_add_mod i 2, e, mod_two h]) hi
  | succ n => exact Nat.succ_le_succ (Nat.zero_le n)
theorem ktBound_get : ∀ (t : KT) (i : Nat) (o : Obj), t.get i = some o → i < ktBound t
  | .nil, i, o, e => by cases e
  | .node v l r, i, o, e => by
    rw [KT.get_node] at e
    by_cases h0 : i = 0
    · subst h0
      rw [if_pos rfl] at e
      subst e
      unfold ktBound
      dsimp only
      omega
    · rw [if_neg h0] at e
      by_cases p : i % 2 = 1
      · rw [if_pos p] at e
        have z := ktBound_get l _ _ e
        have e2 : i = 2 * (i / 2) + 1 := (Nat.div_add_mod i 2).symm.trans (by rw [p])
        have hA : i < 2 * ktBound l := Nat.lt_of_le_of_lt (Nat.le_of_eq e2) (Nat.lt_of_lt_of_le (Nat.lt_succ_self _) (Nat.mul_le_mul_left 2 (Nat.succ_le_of_lt z)))
        have hB := Nat.lt_of_lt_of_le hA (Nat.le_max_left _ (2 * ktBound r + 1))
        unfold ktBound
        cases v
        · exact hB
        · exact Nat.lt_of_lt_of_le hB (Nat.le_max_right _ _)
      · rw [if_neg p] at e
        have z := ktBound_get r _ _ e
        have e2 : i = 2 * (i / 2) := (Nat.div_add_mod i 2).symm.trans (by rw [mod_two p, Nat.add_zero])
        have h1 : i / 2 ≤ ktBound r := by rw [← Nat.sub_add_cancel (half_pos h0 p)]; exact Nat.succ_le_of_lt z
        have hA : i < 2 * ktBound r + 1 := Nat.lt_succ_of_le (Nat.le_trans (Nat.le_of_eq e2) (Nat.mul_le_mul_left 2 h1))
        have hB := Nat.lt_of_lt_of_le hA (Nat.le_max_right (2 * ktBound l) _)
        unfold ktBound
        cases v
        · exact hB
        · exact Nat.lt_of_lt_of_le hB (Nat.le_max_right _ _)
noncomputable def ktDel : KT → Nat → KT
  | .nil, _ => .nil
  | .node v l r, i => match Nat.beq i 0 with
    | true => .node none l r
    | false => match Nat.beq (i % 2) 1 with
      | true => .node v (ktDel l (i / 2)) r
      | false => .node v l (ktDel r (i / 2 - 1))
theorem ktDel_node (v : Option Obj) (l r : KT) (i : Nat) : ktDel (.node v l r) i = if i = 0 then .node none l r else if i % 2 = 1 then .node v (ktDel l (i / 2)) r else .node v l (ktDel r (i / 2 - 1)) := by
  show (match Nat.beq i 0 with | true => KT.node none l r | false => match Nat.beq (i % 2) 1 with | true => KT.node v (ktDel l (i / 2)) r | false => KT.node v l (ktDel r (i / 2 - 1))) = _
  rw [BT.beq_eq, BT.beq_eq]
  by_cases h : i = 0
  · simp [h]
  · by_cases q : i % 2 = 1 <;> simp [h, q]
theorem ktDel_get : ∀ (t : KT) (a i : Nat), (ktDel t a).get i = if i = a then none else t.get i
  | .nil, a, i => by show (KT.nil.get i) = _; simp [KT.get]
  | .node v l r, a, i => by
    rw [ktDel_node]
    by_cases ha : a = 0
    · subst ha
      rw [if_pos rfl, KT.get_node, KT.get_node]
      by_cases hi : i = 0 <;> simp [hi]
    · rw [if_neg ha]
      by_cases pa : a % 2 = 1
      · rw [if_pos pa, KT.get_node, KT.get_node, ktDel_get l]
        by_cases hi : i = 0
        · simp [hi, Ne.symm ha]
        · by_cases pi : i % 2 = 1
          · simp only [hi, if_false, pi, if_true]
            have : (i / 2 = a / 2) ↔ (i = a) := ⟨fun h => by rw [← Nat.div_add_mod i 2, ← Nat.div_add_mod a 2, h, pi, pa], fun h => by rw [h]⟩
            simp [this]
          · have : i ≠ a := by omega
            simp [hi, pi, this]
      · rw [if_neg pa, KT.get_node, KT.get_node, ktDel_get r]
        by_cases hi : i = 0
        · simp [hi, Ne.symm ha]
        · by_cases pi : i % 2 = 1
          · have : i ≠ a := fun h => pa (h ▸ pi)
            simp [hi, pi, this]
          · simp only [hi, if_false, pi]
            have : (i / 2 - 1 = a / 2 - 1) ↔ (i = a) := ⟨fun h => by
              have h2 : i / 2 = a / 2 := by rw [← Nat.sub_add_cancel (half_pos hi pi), ← Nat.sub_add_cancel (half_pos ha pa), h]
              rw [← Nat.div_add_mod i 2, ← Nat.div_add_mod a 2, h2, mod_two pi, mod_two pa], fun h => by rw [h]⟩
            simp [this]
noncomputable def TopOf (t : KT) (h : Heap) : Prop := ∀ a o, t.get a = some o → h.get? a = some o
theorem TopOf.keeps {t : KT} {h h' : Heap} {ks : List Addr} (T : TopOf t h) (k : ∀ b o, h.get? b = some o → b ∉ ks → h'.get? b = some o) (hk : ∀ b ∈ ks, t.get b = none) : TopOf t h' := fun a o e => k a o (T a o e) fun hm => by
  rw [hk a hm] at e; cases e
theorem ktBound_none {t : KT} {n a : Nat} (h : ktBound t ≤ n) (ha : n ≤ a) : t.get a = none := by
  cases e : t.get a with
  | none => rfl
  | some o => exact absurd (ktBound_get t a o e) (by omega)
theorem ktDel_sub {t : KT} {a : Nat} {h : Heap} (T : TopOf t h) : TopOf (ktDel t a) h := fun b o e => by
  rw [ktDel_get] at e
  split at e
  · cases e
  · exact T b o e

noncomputable def SpecC (prog : Program) (w : World) (kt : KT) (n₀ t₁ dm um : Nat) (c : Code) (needs : List Addr) (objs : List Obj) (σ : Hk) : Prop :=
  ∀ (A : Around) (h : Heap) (g : Array GenState) (d : Drawn) (t : Nat) (os : OsState), A.handled = none → A.depth ≤ dm → A.units ≤ um → TopOf kt h → n₀ ≤ h.objs.size → t₁ ≤ t →
    (∀ (i : Nat) a o, needs[i]? = some a → objs[i]? = some o → h.get? a = some o) → objs.length = needs.length → (∀ e ∈ σ.eqs, e.1 = e.2) → needs.Nodup → (∀ a ∈ needs, kt.get a = none) →
    codeAny (model prog w) A c (fun res s' => ∃ h' t' tv av, s' = ⟨h', g, d, t', os⟩ ∧ t₁ ≤ t' ∧ tv.length = σ.nt ∧ av.length = σ.nn ∧ (∀ x ∈ tv, t₁ ≤ x) ∧ res = σ.res tv av ∧ After h h' needs (σ.upd tv av) (σ.news tv av) av) ⟨h, g, d, t, os⟩
theorem SpecC.hook {V : SV} {c : Code} {r : Hr} {objs : List Obj} {σ : Hk} {dm um : Nat} (h : SpecC V.prog V.w V.kt V.n₀ V.t₁ dm um c (r.all objs) objs σ) (hd : V.dm ≤ dm) (hu : V.um ≤ um) (hF : ∀ h, KeepsBase V h → TopOf V.kt h) (hn : V.n₀ ≤ V.h₀.objs.size) : HookOk V c r objs σ :=
  fun A hp t h1 h2 h3 hk ht hs hl he hn1 hn2 => h A hp V.g V.d t V.os h1 (Nat.le_trans h2 hd) (Nat.le_trans h3 hu) (hF hp hk) (Nat.le_trans hn hk.1) ht hs hl he hn1 hn2
noncomputable def treeOf (mt : List (Addr × Obj)) : BT := insAll (mt.map (·.2)) .nil 0
theorem rep_start {V : SV} (O : V.Ok) (hi : allIns (V.mt.map (·.2)) .nil 0 = true) (pa : Nat → Nat) : RepS V V.h₀ pa (treeOf V.mt) V.mt.length := by
  refine ⟨⟨Nat.le_refl _, fun b o e _ => e⟩, fun i o e => ?_, fun i hi => ?_, fun i j hi hj e => ?_, fun i h1 h2 => absurd h2 (Nat.not_lt.mpr h1), Nat.le_refl _⟩
  · unfold treeOf at e
    rw [insAll_get _ _ _ hi] at e
    by_cases h : 0 ≤ i ∧ i < 0 + (V.mt.map (·.2)).length
    · rw [if_pos h] at e
      have hl : i < V.mt.length := by simpa using h.2
      refine ⟨hl, ?_⟩
      rw [loc_old hl]
      rw [Nat.sub_zero, List.getElem?_map, List.getElem?_eq_getElem hl] at e
      cases e
      exact O.mtAt _ (List.getElem_mem hl)
    · rw [if_neg h] at e; cases e
  · rw [loc_old hi]
    exact Heap.lt_size (O.mtAt _ (List.getElem_mem hi))
  · rw [loc_old hi, loc_old hj] at e
    have hn := O.mtNd
    unfold keysOf at hn
    have l1 : i < (V.mt.map (·.1)).length := by simpa using hi
    have := (List.getElem?_inj l1 hn).mp (by rw [List.getElem?_map, List.getElem?_map, List.getElem?_eq_getElem hi, List.getElem?_eq_getElem hj]; simp [e] : (V.mt.map (·.1))[i]? = (V.mt.map (·.1))[j]?)
    exact this
theorem S_code {V : SV} (O : V.Ok) (hi : allIns (V.mt.map (·.2)) .nil 0 = true) {c : Code} (n : Nat) (os : List Nat) {t : Nat} (ht : V.t₁ ≤ t)
    (H : ∀ ad tk sp, GoodS (PhiS V ad) os (enterN V (simS V ad tk sp n) c .base (treeOf V.mt) V.mt.length 0)) : codeAny (model V.prog V.w) (An V.dd V.uu) c (enOf V .base) ⟨V.h₀, V.g, V.d, t, V.os⟩ := fun Γ p hc hΓ =>
  enterN_sound (V := V) O (fun ad tk sp => simS V ad tk sp n) (simS_sound O n) (κ := .base) (fun e => by cases e) (pa := fun _ => 0) (pt := fun _ => 0) (pz := fun _ => default) (fun ad tk sp _ _ _ => H ad tk sp) (rep_start O hi _) ht Γ p ⟨hc, hΓ, trivial⟩
theorem S_any {V : SV} (O : V.Ok) (hi : allIns (V.mt.map (·.2)) .nil 0 = true) {t : Sem PySem.Fin} (n : Nat) (os : List Nat) {tk₀ : Nat} (ht : V.t₁ ≤ tk₀) (hE : ∀ e s, postE (enOf V .any) e s → V.E₀ e s)
    (H : ∀ ad tk sp, GoodS (PhiS V ad) os (simS V ad tk sp n default .any t (treeOf V.mt) V.mt.length 0)) : wpAny (model V.prog V.w) (An V.dd V.uu) t V.Q₀ V.E₀ ⟨V.h₀, V.g, V.d, tk₀, V.os⟩ := by
  have z := simS_sound O n default .any t (treeOf V.mt) V.mt.length 0 os V.h₀ tk₀ (fun _ => 0) (fun _ => 0) (fun _ => default) (fun ad tk sp _ _ _ => H ad tk sp) (rep_start O hi _) ht
  exact z
theorem S_enc {α : Type} {M : Model} {A : Around} {t : Sem α} {Q : PySem.Fin → Shared → Prop} {E : Value → Shared → Prop} {s : Shared} (enc : α → PySem.Fin) (h : wpAny M A (t.bind fun a => .pure (enc a)) Q E s) :
    wpAny M A t (fun a s' => Q (enc a) s') E s := fun Γ p hΓ => by
  have := h Γ p hΓ
  rw [Sem.wp_bind] at this
  exact this
theorem after_of {V : SV} {h' : Heap} {ad : Nat → Nat} {T : BT} {m : Nat} (D : RepS V h' ad T m) {needs : List Addr} {upd news : List Obj} (is : List Nat) (hk : keysOf V.mt = needs.take upd.length) (hu : ∀ (i : Nat) x, upd[i]? = some x → T.get i = some x)
    (hn : ∀ (i : Nat) k o, is[i]? = some k → news[i]? = some o → T.get k = some o) (hm : ∀ k ∈ is, V.mt.length ≤ k ∧ k < m) (nd : is.Nodup) :
    After V.h₀ h' needs upd news (is.map (locOf V.mt V.n₀ ad)) := by
  refine ⟨D.kb.1, fun b o e hb => D.kb.2 b o e (by rw [hk]; exact hb), fun i a x h1 h2 => ?_, fun i a o h1 h2 => ?_, ?_, fun x hx => ?_⟩
  · have hT := hu i x h2
    have z := D.own i x hT
    have hlu : i < upd.length := (List.getElem?_eq_some_iff.mp h2).1
    have q : (keysOf V.mt)[i]? = some a := by rw [hk, List.getElem?_take_of_lt hlu]; exact h1
    unfold keysOf at q
    rw [List.getElem?_map] at q
    have hl : i < V.mt.length := by
      rcases Nat.lt_or_ge i V.mt.length with hl | hl
      · exact hl
      · rw [List.getElem?_eq_none hl] at q; cases q
    rw [loc_old hl] at z
    rw [List.getElem?_eq_getElem hl] at q
    cases q
    exact z.2
  · rw [List.getElem?_map] at h1
    cases e : is[i]? with
    | none => rw [e] at h1; cases h1
    | some k =>
      rw [e] at h1
      cases h1
      have z := D.own k o (hn i k o e h2)
      have y := hm k (List.mem_of_getElem? e)
      exact ⟨D.fresh k y.1 y.2, D.lt k y.2, z.2⟩
  · refine List.pairwise_map.mpr (nd.imp_of_mem fun {a b} ha hb hab => fun e => hab (D.inj a b (hm a ha).2 (hm b hb).2 e))
  · obtain ⟨k, hk', rfl⟩ := List.mem_map.mp hx
    exact D.fresh k (hm k hk').1 (hm k hk').2
end Mine
end
section
open PySem PySem.W PyProof.Rows PySem.W.X Mine
set_option Elab.async false
set_option maxRecDepth 100000
set_option maxHeartbeats 4000000
set_option linter.unusedVariables false
namespace Mine
noncomputable abbrev DZ : Code → Sem PySem.Fin := PySem.W.ZFast.zw11892475500146522536 PySem.W.ZFast.tableZ
theorem DZ_eq : DZ = denote table := by
  show PySem.W.ZFast.zw11892475500146522536 PySem.W.ZFast.tableZ = denote table
  rw [← PySem.W.ZFast.ze11892475500146522536, ← PySem.W.ZFast.tableZ_eq]
structure Lg (xs : List Addr) (h₀ h : Heap) (l : List (Addr × Obj)) : Prop where
  size : h₀.objs.size ≤ h.objs.size
  keep : ∀ b o, h₀.get? b = some o → b ∉ xs → h.get? b = some o
  get : ∀ p ∈ l, h.get? p.1 = some p.2
  nd : (keysOf l).Nodup
  ge : ∀ p ∈ l, p.1 ∈ xs ∨ h₀.objs.size ≤ p.1
noncomputable def mkV (prog : Program) (w : World) (b1 b2 b3 : Bool) (n₀ t₁ : Nat) (kt : KT) (l : List (Addr × Obj)) (dd uu dm um : Nat) (h : Heap) (g : Array GenState) (d : Drawn) (os : OsState) (hook : Code → Option Hr) (Q₀ : PySem.Fin → Shared → Prop) (E₀ : Value → Shared → Prop) : SV :=
  { prog, w, P := parS w.params b1 b2 b3, n₀, t₁, kt, old := [], mt := l, dd, uu, dm, um, h₀ := h, g, d, os, D := DZ, hook, Q₀, E₀ }
section
variable {prog : Program} {w : World} {b1 b2 b3 : Bool} {n₀ t₁ dd uu dm um : Nat} {kt : KT} {l : List (Addr × Obj)} {h₀ h : Heap} {xs : List Addr} {g : Array GenState} {d : Drawn} {os : OsState} {hook : Code → Option Hr} {Q₀ : PySem.Fin → Shared → Prop} {E₀ : Value → Shared → Prop}
theorem mkV_ok (hp : w.params = parS w.params b1 b2 b3) (hn : n₀ ≤ h₀.objs.size) (L : Lg xs h₀ h l) (hT : TopOf kt h) (hb : ktBound kt ≤ n₀) (hx : ∀ a ∈ xs, kt.get a = none)
    (hh : ∀ c r objs σ, hook c = some r → r.got objs = some σ → HookOk (mkV prog w b1 b2 b3 n₀ t₁ kt l dd uu dm um h g d os hook Q₀ E₀) c r objs σ) : (mkV prog w b1 b2 b3 n₀ t₁ kt l dd uu dm um h g d os hook Q₀ E₀).Ok := by
  refine ⟨hp, DZ_eq, Nat.le_trans hn L.size, fun h' K => ⟨?_, fun p hp => (nomatch hp)⟩, L.get, L.nd, fun a ha => ?_, hh⟩
  · refine hT.keeps K.2 fun a ha => ?_
    obtain ⟨p, hp, rfl⟩ := List.mem_map.mp ha
    rcases L.ge p hp with q | q
    · exact hx _ q
    · exact ktBound_none hb (Nat.le_trans hn q)
  · rcases ha with ha | ha
    · obtain ⟨p, hp, rfl⟩ := List.mem_map.mp ha
      rcases L.ge p hp with q | q
      · exact hx _ q
      · exact ktBound_none hb (Nat.le_trans hn q)
    · exact ktBound_none hb (Nat.le_trans (Nat.le_trans hn L.size) ha)
theorem lg_after {V : SV} {h' : Heap} {ad : Nat → Nat} {T : BT} {m : Nat} (L : Lg xs h₀ V.h₀ V.mt) (D : RepS V h' ad T m) (is : List Nat) (objs : List Obj) (hg : is.map T.get = objs.map some) (nd : is.Nodup) :
    Lg xs h₀ h' ((is.map (locOf V.mt V.n₀ ad)).zip objs) := by
  have hl : is.length = objs.length := by simpa using congrArg List.length hg
  have get : ∀ (i k : Nat) o, is[i]? = some k → objs[i]? = some o → T.get k = some o := fun i k o h1 h2 => by
    have := congrArg (fun l => l[i]?) hg
    simp only [List.getElem?_map, h1, h2, Option.map_some, Option.some.injEq] at this
    exact this
  refine ⟨Nat.le_trans L.size D.kb.1, fun b o e hx => D.kb.2 b o (L.keep b o e hx) fun hm => ?_, fun p hp => ?_, ?_, fun p hp => ?_⟩
  · obtain ⟨p, hp, rfl⟩ := List.mem_map.mp hm
    rcases L.ge p hp with q | q
    · exact hx q
    · exact absurd (Heap.lt_size e) (Nat.not_lt.mpr q)
  · obtain ⟨i, hi⟩ := List.getElem?_of_mem hp
    rw [List.getElem?_zip_eq_some, List.getElem?_map] at hi
    cases e : is[i]? with
    | none => rw [e] at hi; simp at hi
    | some k =>
      rw [e] at hi
      simp only [Option.map_some, Option.some.injEq] at hi
      have z := D.own k p.2 (get i k p.2 e hi.2)
      rw [← hi.1]
      exact z.2
  · unfold keysOf
    rw [List.map_fst_zip (by rw [List.length_map, hl]; exact Nat.le_refl _)]
    refine List.pairwise_map.mpr (nd.imp_of_mem fun {a b} ha hb hab => fun e => hab ?_)
    have lt : ∀ k ∈ is, k < m := fun k hk => by
      obtain ⟨i, hi⟩ := List.getElem?_of_mem hk
      have hlt := (List.getElem?_eq_some_iff.mp hi).1
      exact (D.own k _ (get i k _ hi (List.getElem?_eq_getElem (hl ▸ hlt)))).1
    exact D.inj a b (lt a ha) (lt b hb) e
  · obtain ⟨i, hi⟩ := List.getElem?_of_mem hp
    rw [List.getElem?_zip_eq_some, List.getElem?_map] at hi
    cases e : is[i]? with
    | none => rw [e] at hi; simp at hi
    | some k =>
      rw [e] at hi
      simp only [Option.map_some, Option.some.injEq] at hi
      have z := D.own k p.2 (get i k p.2 e hi.2)
      rw [← hi.1]
      by_cases hk : k < V.mt.length
      · rw [loc_old hk]
        exact L.ge _ (List.getElem_mem hk)
      · exact .inr (Nat.le_trans L.size (D.fresh k (Nat.le_of_not_lt hk) z.1))
theorem top_keeps (hn : n₀ ≤ h₀.objs.size) (L : Lg xs h₀ h l) (hT : TopOf kt h) (hb : ktBound kt ≤ n₀) (hx : ∀ a ∈ xs, kt.get a = none) {h' : Heap} (K : KeepsBase (mkV prog w b1 b2 b3 n₀ t₁ kt l dd uu dm um h g d os hook Q₀ E₀) h') : TopOf kt h' := by
  refine hT.keeps K.2 fun a ha => ?_
  obtain ⟨p, hp, rfl⟩ := List.mem_map.mp ha
  rcases L.ge p hp with q | q
  · exact hx _ q
  · exact ktBound_none hb (Nat.le_trans hn q)
noncomputable def HookS (prog : Program) (w : World) (kt : KT) (n₀ t₁ dm um : Nat) (hook : Code → Option Hr) : Prop :=
  ∀ c r objs σ, hook c = some r → r.got objs = some σ → SpecC prog w kt n₀ t₁ dm um c (r.all objs) objs σ
theorem hooks_of (hn : n₀ ≤ h₀.objs.size) (L : Lg xs h₀ h l) (hT : TopOf kt h) (hb : ktBound kt ≤ n₀) (hx : ∀ a ∈ xs, kt.get a = none) (H : HookS prog w kt n₀ t₁ dm um hook) :
    ∀ c r objs σ, hook c = some r → r.got objs = some σ → HookOk (mkV prog w b1 b2 b3 n₀ t₁ kt l dd uu dm um h g d os hook Q₀ E₀) c r objs σ := fun c r objs σ h1 h2 =>
  SpecC.hook (V := mkV prog w b1 b2 b3 n₀ t₁ kt l dd uu dm um h g d os hook Q₀ E₀) (H c r objs σ h1 h2) (Nat.le_refl _) (Nat.le_refl _) (fun _ K => top_keeps hn L hT hb hx K) (Nat.le_trans hn L.size)
theorem HookS.none : HookS prog w kt n₀ t₁ dm um fun _ => Option.none := fun _ _ _ _ h => nomatch h
noncomputable def orHook (f g : Code → Option Hr) (c : Code) : Option Hr := match f c with
  | some r => some r
  | Option.none => g c
theorem HookS.or {f g : Code → Option Hr} (hf : HookS prog w kt n₀ t₁ dm um f) (hg : HookS prog w kt n₀ t₁ dm um g) : HookS prog w kt n₀ t₁ dm um (orHook f g) := fun c r objs σ h1 h2 => by
  unfold orHook at h1
  split at h1
  · rename_i r' e
    cases h1
    exact hf c _ objs σ e h2
  · exact hg c r objs σ h1 h2
theorem Lg.start {xs : List Addr} : Lg xs h h [] := ⟨Nat.le_refl _, fun _ _ e _ => e, fun _ hp => (nomatch hp), List.nodup_nil, fun _ hp => (nomatch hp)⟩
theorem Lg.sub {l' : List (Addr × Obj)} (L : Lg xs h₀ h l) (hs : ∀ p ∈ l', p ∈ l) (nd : (keysOf l').Nodup) : Lg xs h₀ h l' := ⟨L.size, L.keep, fun p hp => L.get p (hs p hp), nd, fun p hp => L.ge p (hs p hp)⟩
theorem led_code {c : Code} {R : Result → Shared → Prop} (n : Nat) (os' : List Nat) {t : Nat} (hp : w.params = parS w.params b1 b2 b3) (hn : n₀ ≤ h₀.objs.size) (L : Lg xs h₀ h l) (hT : TopOf kt h) (hb : ktBound kt ≤ n₀) (hx : ∀ a ∈ xs, kt.get a = none)
    (hi : allIns (l.map (·.2)) .nil 0 = true) (ht : t₁ ≤ t)
    (hh : HookS prog w kt n₀ t₁ dm um hook)
    (H : ∀ ad tk sp, GoodS (PhiS (mkV prog w b1 b2 b3 n₀ t₁ kt l dd uu dm um h g d os hook (fun f s => match f with | .done f => R (.ok f) s | .again _ => False) (fun e s => R (.error e) s)) ad) os'
      (enterN (mkV prog w b1 b2 b3 n₀ t₁ kt l dd uu dm um h g d os hook (fun f s => match f with | .done f => R (.ok f) s | .again _ => False) (fun e s => R (.error e) s)) (simS (mkV prog w b1 b2 b3 n₀ t₁ kt l dd uu dm um h g d os hook (fun f s => match f with | .done f => R (.ok f) s | .again _ => False) (fun e s => R (.error e) s)) ad tk sp n) c .base (treeOf l) l.length 0)) :
    codeAny (model prog w) (An dd uu) c R ⟨h, g, d, t, os⟩ := by
  have z := S_code (V := mkV prog w b1 b2 b3 n₀ t₁ kt l dd uu dm um h g d os hook (fun f s => match f with | .done f => R (.ok f) s | .again _ => False) (fun e s => R (.error e) s)) (mkV_ok hp hn L hT hb hx (hooks_of hn L hT hb hx hh)) hi n os' ht H
  refine codeAny_mono z fun r s' x => ?_
  cases r <;> exact x
theorem led_any {α : Type} {tree : Sem α} (enc : α → PySem.Fin) {Q : α → Shared → Prop} {E : Value → Shared → Prop} (n : Nat) (os' : List Nat) {t : Nat} (hp : w.params = parS w.params b1 b2 b3) (hn : n₀ ≤ h₀.objs.size) (L : Lg xs h₀ h l) (hT : TopOf kt h) (hb : ktBound kt ≤ n₀) (hx : ∀ a ∈ xs, kt.get a = none)
    (hi : allIns (l.map (·.2)) .nil 0 = true) (ht : t₁ ≤ t)
    (hh : HookS prog w kt n₀ t₁ dm um hook)
    (H : ∀ ad tk sp, GoodS (PhiS (mkV prog w b1 b2 b3 n₀ t₁ kt l dd uu dm um h g d os hook (fun f s => ∀ a, f = enc a → Q a s) E) ad) os'
      (simS (mkV prog w b1 b2 b3 n₀ t₁ kt l dd uu dm um h g d os hook (fun f s => ∀ a, f = enc a → Q a s) E) ad tk sp n default .any (PySem.W.R.bindR tree fun a => .pure (enc a)) (treeOf l) l.length 0)) :
    wpAny (model prog w) (An dd uu) tree Q E ⟨h, g, d, t, os⟩ := by
  have z := S_any (V := mkV prog w b1 b2 b3 n₀ t₁ kt l dd uu dm um h g d os hook (fun f s => ∀ a, f = enc a → Q a s) E) (mkV_ok hp hn L hT hb hx (hooks_of hn L hT hb hx hh)) hi n os' ht (fun _ _ x => x) H
  rw [← PySem.W.R.bindR_eq] at z
  exact wpAny_mono (S_enc enc z) (fun a s' x => x a rfl) fun _ _ x => x
end
end Mine

namespace Mine
noncomputable def EndS (V : SV) (r : Except Value PySem.Fin) (s : Shared) : Prop := match r with
  | .ok fin => V.Q₀ fin s
  | .error e => V.E₀ e s
theorem phi_good {V : SV} {ad : Nat → Nat} {x : SRes} {os : List Nat} {r : Except Value PySem.Fin} (e : (x.run os []).1.ok = true) (hq : (x.run os []).2.map (·.1) = (x.run os []).2.map (·.2)) (hr : (x.run os []).1.res = r)
    (h : ∀ h' t', RepS V h' ad (x.run os []).1.T (x.run os []).1.m → V.t₁ ≤ t' → EndS V r ⟨h', V.g, V.d, t', V.os⟩) : GoodS (PhiS V ad) os x := by
  refine good_of e hq fun k h' t' D ht => ?_
  have := h h' t' D ht
  rw [hr]
  cases r <;> exact this
noncomputable def tell (x : SOut × List (VO × VO)) (n : Nat) (is : List Nat) : Bool × List VO × Except Value PySem.Fin × List (Option Obj) × List (Option Obj) × Bool :=
  (x.1.ok, x.2.map (·.1), x.1.res, (List.range n).map x.1.T.get, is.map x.1.T.get, is.all fun k => Nat.ble n k && Nat.blt k x.1.m)
noncomputable def ranC (prog : Program) (w : World) (n₀ t₁ : Nat) (kt : KT) (l : List (Addr × Obj)) (dm um dmh umh : Nat) (hook : Code → Option Hr) (c : Code) (n : Nat) (osB : Bool → Bool → Bool → List Nat) (b1 b2 b3 : Bool) (h : Heap) (g : Array GenState) (d : Drawn) (os : OsState) (Q₀ : PySem.Fin → Shared → Prop) (E₀ : Value → Shared → Prop) (ad tk : Nat → Nat) (sp : StkF) : SOut × List (VO × VO) :=
  SRes.run (enterN (mkV prog w b1 b2 b3 n₀ t₁ kt l dm um dmh umh h g d os hook Q₀ E₀) (simS (mkV prog w b1 b2 b3 n₀ t₁ kt l dm um dmh umh h g d os hook Q₀ E₀) ad tk sp n) c .base (treeOf l) l.length 0) (osB b1 b2 b3) []
noncomputable abbrev RanC := Bool → Bool → Bool → Heap → Array GenState → Drawn → OsState → (PySem.Fin → Shared → Prop) → (Value → Shared → Prop) → (Nat → Nat) → (Nat → Nat) → StkF → SOut × List (VO × VO)
noncomputable abbrev Told := Bool × List VO × Except Value PySem.Fin × List (Option Obj) × List (Option Obj) × Bool
noncomputable abbrev TellC (X : Type) := Heap → Array GenState → Drawn → OsState → (PySem.Fin → Shared → Prop) → (Value → Shared → Prop) → (Nat → Nat) → (Nat → Nat) → StkF → X
noncomputable def tellC1 (r : RanC) (n : Nat) (is : List Nat) (b1 b2 b3 : Bool) : TellC Told := fun h g d os Q₀ E₀ ad tk sp => tell (r b1 b2 b3 h g d os Q₀ E₀ ad tk sp) n is
noncomputable def tellC2 (r : RanC) (l : List (Addr × Obj)) (n₀ t₁ : Nat) (σ : Hk) (is ts : List Nat) (b1 b2 b3 : Bool) : TellC Told := fun h g d os Q₀ E₀ ad tk sp =>
  (true, (r b1 b2 b3 h g d os Q₀ E₀ ad tk sp).2.map (·.2), outOf (σ.res (ts.map fun i => tk i + t₁) (is.map (locOf l n₀ ad))), (σ.upd (ts.map fun i => tk i + t₁) (is.map (locOf l n₀ ad))).map some, (σ.news (ts.map fun i => tk i + t₁) (is.map (locOf l n₀ ad))).map some, true)
theorem spec_runB {prog : Program} {w : World} {kt : KT} {n₀ t₁ dm um dmh umh : Nat} {c : Code} {needs : List Addr} {objs : List Obj} {σ : Hk} {hook : Code → Option Hr} (n : Nat) (osB : Bool → Bool → Bool → List Nat) (is ts : List Nat) (hb : ktBound kt ≤ n₀) (hh : HookS prog w kt n₀ t₁ dmh umh hook)
    (hi : allIns objs .nil 0 = true) (hl : objs.length = needs.length) (hu : ∀ tv av, (σ.upd tv av).length = needs.length) (hnt : ts.length = σ.nt) (hnn : is.length = σ.nn) (nd : is.Nodup)
    (H : ∀ b1 b2 b3, tellC1 (ranC prog w n₀ t₁ kt (needs.zip objs) dm um dmh umh hook c n osB) needs.length is b1 b2 b3 = tellC2 (ranC prog w n₀ t₁ kt (needs.zip objs) dm um dmh umh hook c n osB) (needs.zip objs) n₀ t₁ σ is ts b1 b2 b3)
    : SpecC prog w kt n₀ t₁ dm um c needs objs σ := by
  intro A h g d t os h1 h2 h3 hT hn ht hg _ he hnd hfar
  refine code_An (d := dm) (u := um) h1 h2 h3 ?_
  have hk : keysOf (needs.zip objs) = needs := by
    unfold keysOf
    exact List.map_fst_zip (by rw [hl]; exact Nat.le_refl _)
  have hk2 : (needs.zip objs).map (·.2) = objs := List.map_snd_zip (by rw [hl]; exact Nat.le_refl _)
  have hz : (needs.zip objs).length = needs.length := by rw [List.length_zip, hl, Nat.min_self]
  have L : Lg needs h h (needs.zip objs) := by
    refine ⟨Nat.le_refl _, fun _ _ e _ => e, fun p hp => ?_, by rw [hk]; exact hnd, fun p hp => ?_⟩
    · obtain ⟨i, hi⟩ := List.getElem?_of_mem hp
      rw [List.getElem?_zip_eq_some] at hi
      exact hg i _ _ hi.1 hi.2
    · exact .inl (hk ▸ List.mem_map_of_mem hp)
  refine led_code (h₀ := h) (xs := needs) (l := needs.zip objs) (dm := dmh) (um := umh) (hook := hook) n (osB (w.params.followText "special-get-raises") (w.params.followText "for-iterable-display-folded") (w.params.followText "comprehension-iter-twice")) (parS_eq w.params) hn L hT hb hfar (by rw [hk2]; exact hi) ht hh fun ad tk sp => ?_
  have z := congrFun (congrFun (congrFun (congrFun (congrFun (congrFun (congrFun (congrFun (congrFun (H (w.params.followText "special-get-raises") (w.params.followText "for-iterable-display-folded") (w.params.followText "comprehension-iter-twice")) h) g) d) os)
    (fun f s => match f with | .done f => (fun res s' => ∃ h' t' tv av, s' = ⟨h', g, d, t', os⟩ ∧ t₁ ≤ t' ∧ tv.length = σ.nt ∧ av.length = σ.nn ∧ (∀ x ∈ tv, t₁ ≤ x) ∧ res = σ.res tv av ∧ After h h' needs (σ.upd tv av) (σ.news tv av) av) (.ok f) s | .again _ => False))
    (fun e s => (fun res s' => ∃ h' t' tv av, s' = ⟨h', g, d, t', os⟩ ∧ t₁ ≤ t' ∧ tv.length = σ.nt ∧ av.length = σ.nn ∧ (∀ x ∈ tv, t₁ ≤ x) ∧ res = σ.res tv av ∧ After h h' needs (σ.upd tv av) (σ.news tv av) av) (.error e) s)) ad) tk) sp
  unfold tellC1 tellC2 ranC at z
  generalize hV : mkV prog w (w.params.followText "special-get-raises") (w.params.followText "for-iterable-display-folded") (w.params.followText "comprehension-iter-twice") n₀ t₁ kt (needs.zip objs) dm um dmh umh h g d os hook _ _ = V at z ⊢
  have v1 : V.mt = needs.zip objs := by rw [← hV]; rfl
  have v2 : V.n₀ = n₀ := by rw [← hV]; rfl
  have v3 : V.h₀ = h := by rw [← hV]; rfl
  have v4 : V.g = g := by rw [← hV]; rfl
  have v5 : V.d = d := by rw [← hV]; rfl
  have v6 : V.os = os := by rw [← hV]; rfl
  have v7 : V.t₁ = t₁ := by rw [← hV]; rfl
  have vq : ∀ r s, (∃ h' t' tv av, s = ⟨h', g, d, t', os⟩ ∧ t₁ ≤ t' ∧ tv.length = σ.nt ∧ av.length = σ.nn ∧ (∀ x ∈ tv, t₁ ≤ x) ∧ r = σ.res tv av ∧ After h h' needs (σ.upd tv av) (σ.news tv av) av) →
      EndS V (outOf r) s := fun r s x => by
    rw [← hV]
    cases r <;> exact x
  unfold tell at z
  simp only [Prod.mk.injEq] at z
  obtain ⟨z1, z2, z3, z4, z5, z6⟩ := z
  refine phi_good z1 z2 z3 fun h' t' D ht' => ?_
  refine vq _ ⟨h', V.g, V.d, t', V.os⟩ ⟨h', t', _, _, by rw [v4, v5, v6], v7 ▸ ht', by rw [List.length_map]; exact hnt, by rw [List.length_map]; exact hnn, fun x hx => ?_, rfl, ?_⟩
  · obtain ⟨i, _, rfl⟩ := List.mem_map.mp hx
    exact Nat.le_add_left ..
  · have y := after_of D (needs := needs) (upd := σ.upd (ts.map fun i => tk i + t₁) (is.map (locOf (needs.zip objs) n₀ ad))) (news := σ.news (ts.map fun i => tk i + t₁) (is.map (locOf (needs.zip objs) n₀ ad))) is ?_ ?_ ?_ ?_ nd
    · rw [v1, v2, v3] at y
      exact y
    · rw [v1, hk, hu, List.take_length]
    · intro i x hx
      have := congrArg (fun l => l[i]?) z4
      simp only [List.getElem?_map, hx, Option.map_some] at this
      have hlt : i < needs.length := by
        have := (List.getElem?_eq_some_iff.mp hx).1
        rw [hu] at this
        exact this
      rw [List.getElem?_range hlt] at this
      simpa using this
    · intro i k o h1 h2
      have := congrArg (fun l => l[i]?) z5
      simp only [List.getElem?_map, h1, h2, Option.map_some, Option.some.injEq] at this
      exact this
    · intro k hk'
      have := List.all_eq_true.mp z6 k hk'
      rw [Bool.and_eq_true] at this
      refine ⟨?_, Nat.le_of_ble_eq_true this.2⟩
      rw [v1, hz]
      exact Nat.le_of_ble_eq_true this.1
theorem spec_run {prog : Program} {w : World} {kt : KT} {n₀ t₁ dm um dmh umh : Nat} {c : Code} {needs : List Addr} {objs : List Obj} {σ : Hk} {hook : Code → Option Hr} (n : Nat) (os' is ts : List Nat) (hb : ktBound kt ≤ n₀) (hh : HookS prog w kt n₀ t₁ dmh umh hook)
    (hi : allIns objs .nil 0 = true) (hl : objs.length = needs.length) (hu : ∀ tv av, (σ.upd tv av).length = needs.length) (hnt : ts.length = σ.nt) (hnn : is.length = σ.nn) (nd : is.Nodup)
    (H : ∀ b1 b2 b3, tellC1 (ranC prog w n₀ t₁ kt (needs.zip objs) dm um dmh umh hook c n (fun _ _ _ => os')) needs.length is b1 b2 b3 = tellC2 (ranC prog w n₀ t₁ kt (needs.zip objs) dm um dmh umh hook c n (fun _ _ _ => os')) (needs.zip objs) n₀ t₁ σ is ts b1 b2 b3)
    : SpecC prog w kt n₀ t₁ dm um c needs objs σ := by
  exact spec_runB n (fun _ _ _ => os') is ts hb hh hi hl hu hnt hnn nd H
end Mine
end
section
open PySem PySem.W PyProof.Rows PySem.W.X
set_option Elab.async false
set_option maxRecDepth 100000
set_option maxHeartbeats 0
local macro_rules | `(tactic| k_head) => `(tactic| z_head)
open_top hz2 for PySem.Challenge.rw_oy0085_02
end
section
open PySem PySem.W PyProof.Rows PySem.W.X Mine
set_option Elab.async false
set_option maxRecDepth 100000
set_option maxHeartbeats 0
set_option linter.unusedVariables false
namespace Mine
noncomputable abbrev pr : Program := PySem.Challenge.pw_oy0085_02
noncomputable def ktA (w : World) : KT := ktDel (hz2.ktop_259 w.params) 16
theorem ktA_bound (w : World) : ktBound (ktA w) ≤ 111 := Nat.le_of_eq (show ktBound (ktA w) = 111 by kernel_rfl)
noncomputable def hkInt (i : Int) : Hk := { nt := 1, nn := 0, res := fun tv _ => .ok (.ret (.int i (tv.getD 0 0))), news := fun _ _ => [], upd := fun _ _ => [] }
end Mine
end
section
open PySem PySem.W PyProof.Rows PySem.W.X Mine
set_option Elab.async false
set_option maxRecDepth 100000
set_option maxHeartbeats 0
set_option linter.unusedVariables false
namespace Mine
noncomputable def RR (M : Model) (A : Around) {α : Type} (t t' : Sem α) : Prop := ∀ Γ, Γ.In A → ∀ (Q : α → Pos → Shared → Prop) (E : Value → Pos → Shared → Prop) p s, Sem.wp M Γ t' Q E p s → Sem.wp M Γ t Q E p s
section
variable {M : Model} {A : Around} {α β : Type}
theorem RR.refl (t : Sem α) : RR M A t t := fun _ _ _ _ _ _ h => h
theorem RR.bind {x x' : Sem α} {f f' : α → Sem β} (hx : RR M A x x') (hf : ∀ a, RR M A (f a) (f' a)) : RR M A (@bind Sem (@Monad.toBind Sem PySem.W.ZFast.zw12456147031677567982) α β x f) (@bind Sem (@Monad.toBind Sem PySem.W.ZFast.zw12456147031677567982) α β x' f') := by
  show RR M A (PySem.W.R.bindR x f) (PySem.W.R.bindR x' f')
  rw [← PySem.W.R.bindR_eq]
  intro Γ hΓ Q E p s h
  rw [Sem.wp_bind] at h ⊢
  exact hx Γ hΓ _ _ _ _ (Sem.wp_mono _ _ _ (fun a p' s' q => hf a Γ hΓ _ _ _ _ q) (fun _ _ _ q => q) _ _ h)
theorem RR.hold {x x' : Sem α} (l : List Value) (hx : RR M A x x') : RR M A (PySem.W.ZFast.zw17359229931016689406 l x) (PySem.W.ZFast.zw17359229931016689406 l x') := by
  rw [← PySem.W.ZFast.ze17359229931016689406]
  intro Γ hΓ Q E p s h
  rw [Sem.wp_holding] at h ⊢
  exact hx Γ hΓ _ _ _ _ h
theorem RR.cond {x x' y y' : Sem α} (b : Bool) (hx : RR M A x x') (hy : RR M A y y') : RR M A (PySem.W.X.condFn (Sem α) b x y) (PySem.W.X.condFn (Sem α) b x' y') := by
  cases b
  · exact hy
  · exact hx
theorem RR.wp {t t' : Sem α} (h : RR M A t t') {Q : α → Shared → Prop} {E : Value → Shared → Prop} {s : Shared} (x : wpAny M A t' Q E s) : wpAny M A t Q E s := fun Γ p hΓ => h Γ hΓ _ _ _ _ (x Γ p hΓ)
theorem RR.enter {d u : Nat} (hd : d < recursionLimit) : RR M (An d u) (@PySem.W.ZFast.enterX 0) enterFrameZ := by
  intro Γ hΓ Q E p s h
  have z := enterFrameZ_sound (f := Sem.pure) (Q := Q) (E := E) (p := p) (s := s) hΓ hd (by rw [Sem.wp_bind]; exact h)
  rw [Sem.wp_bind] at z
  rw [← PySem.W.ZFast.enterX_eq]
  exact z
end
theorem RR.of_eq {M : Model} {A : Around} {α : Type} {t t' x : Sem α} (e : t = t') (h : RR M A t' x) : RR M A t x := e ▸ h
noncomputable def RS (M : Model) (A : Around) {α : Type} (t' t : Sem α) : Prop := RR M A t t'
theorem RS.of {M : Model} {A : Around} {α : Type} {t t' : Sem α} (h : RS M A t' t) : RR M A t t' := h
theorem RS.to {M : Model} {A : Around} {α : Type} {t t' : Sem α} (h : RR M A t t') : RS M A t' t := h
noncomputable def clsT (name qual : Str) (given : List Value) (kw : List (Str × Value)) (body : List Stmt) (scope : Scope) (statics : List Str) (firstLine : Nat) (env : Env) (pos : Pos) :
    { T : Sem Unit → Sem Value // buildClass name qual given kw body scope statics firstLine env pos none = T (@PySem.W.ZFast.enterX 0) } := by
  refine ⟨?T, ?h1⟩
  case h1 =>
    rw [PySem.W.ZFast.ze1785580099245652887]
    unfold PySem.W.ZFast.zw1785580099245652887
    generalize @PySem.W.ZFast.enterX 0 = ef
    exact rfl
theorem clsT_R {M : Model} {d u : Nat} (hd : d < recursionLimit) (name qual : Str) (given : List Value) (kw : List (Str × Value)) (body : List Stmt) (scope : Scope) (statics : List Str) (firstLine : Nat) (env : Env) (pos : Pos) :
    RR M (An d u) (buildClass name qual given kw body scope statics firstLine env pos none) ((clsT name qual given kw body scope statics firstLine env pos).1 enterFrameZ) := by
  refine RR.of_eq (clsT name qual given kw body scope statics firstLine env pos).2 ?_
  suffices key : ∀ ef, RR M (An d u) ef enterFrameZ → RR M (An d u) ((clsT name qual given kw body scope statics firstLine env pos).1 ef) ((clsT name qual given kw body scope statics firstLine env pos).1 enterFrameZ) from key _ (RR.enter hd)
  intro ef he
  unfold clsT
  dsimp (config := { zeta := false }) only
  repeat' first
    | with_reducible exact RR.refl _
    | contradiction
    | with_reducible assumption
    | (with_reducible solve_by_elim)
    | with_reducible refine RR.hold _ ?_
    | with_reducible refine RR.cond _ ?_ ?_
    | with_reducible refine RR.bind (RR.refl _) fun _ => ?_
    | with_reducible refine RR.bind ?_ fun _ => ?_
    | (extract_lets -underBinder +onlyGivenNames j
       refine RS.of ?_
       extract_lets -underBinder +onlyGivenNames j'
       refine RS.to ?_
       first | (have hj : ∀ x, RR M (An d u) (j x) (j' x) := ?_) | (have hj : ∀ x y, RR M (An d u) (j x y) (j' x y) := ?_)
       clear_value j j'
       rotate_left
       intros
       subst j j'
       dsimp (config := { zeta := false }) only)
    | (extract_lets -underBinder +onlyGivenNames j
       fail_if_success (have q := fun x => j x)
       clear_value j)
    | (split <;> try contradiction)
end Mine
end
section
open PySem PySem.W PyProof.Rows PySem.W.X Mine
set_option Elab.async false
set_option maxRecDepth 100000
set_option maxHeartbeats 4000000
set_option linter.unusedVariables false
namespace Mine
theorem range_split (n : Nat) (is : List Nat) (l : List (Addr × Obj)) (n₀ : Nat) (ad : Nat → Nat) (upd news : List Obj) (hn : l.length = n) (hu : upd.length = n) :
    ((List.range n ++ is).map (locOf l n₀ ad)).zip (upd ++ news) = (keysOf l).zip upd ++ (is.map (locOf l n₀ ad)).zip news := by
  rw [List.map_append, List.zip_append (by simp [hu])]
  congr 2
  apply List.ext_getElem
  · simp [keysOf, hn]
  · intro i h1 h2
    have hi : i < l.length := by simpa [keysOf] using h2
    simp [keysOf, loc_old hi]
noncomputable def ranT (prog : Program) (w : World) (n₀ t₁ : Nat) (kt : KT) (l : List (Addr × Obj)) (dd uu dm um : Nat) (h : Heap) (g : Array GenState) (d : Drawn) (os : OsState) (hook : Code → Option Hr) (E : Value → Shared → Prop) {α : Type} (enc : α → PySem.Fin) (tree : Sem α) (n : Nat) (osB : Bool → Bool → Bool → List Nat) (b1 b2 b3 : Bool) (Q₀ : PySem.Fin → Shared → Prop) (ad tk : Nat → Nat) (sp : StkF) : SOut × List (VO × VO) :=
  SRes.run (simS (mkV prog w b1 b2 b3 n₀ t₁ kt l dd uu dm um h g d os hook Q₀ E) ad tk sp n default .any (PySem.W.R.bindR tree fun a => .pure (enc a)) (treeOf l) l.length 0) (osB b1 b2 b3) []
noncomputable abbrev RanT := Bool → Bool → Bool → (PySem.Fin → Shared → Prop) → (Nat → Nat) → (Nat → Nat) → StkF → SOut × List (VO × VO)
noncomputable abbrev TellT (X : Type) := (PySem.Fin → Shared → Prop) → (Nat → Nat) → (Nat → Nat) → StkF → X
noncomputable def tellT1 (r : RanT) (n : Nat) (is : List Nat) (b1 b2 b3 : Bool) : TellT Told := fun Q₀ ad tk sp => tell (r b1 b2 b3 Q₀ ad tk sp) n is
noncomputable def tellT2 (r : RanT) (l : List (Addr × Obj)) (n₀ t₁ : Nat) {α : Type} (enc : α → PySem.Fin) (is ts : List Nat) (v : List Nat → List Nat → α) (upd news : List Nat → List Nat → List Obj) (b1 b2 b3 : Bool) : TellT Told := fun Q₀ ad tk sp =>
  (true, (r b1 b2 b3 Q₀ ad tk sp).2.map (·.2), .ok (enc (v (ts.map fun i => tk i + t₁) (is.map (locOf l n₀ ad)))), (upd (ts.map fun i => tk i + t₁) (is.map (locOf l n₀ ad))).map some, (news (ts.map fun i => tk i + t₁) (is.map (locOf l n₀ ad))).map some, true)
theorem led_goB {prog : Program} {w : World} {n₀ t₁ dd uu dm um : Nat} {kt : KT} {l : List (Addr × Obj)} {h₀ h : Heap} {xs : List Addr} {g : Array GenState} {d : Drawn} {os : OsState} {hook : Code → Option Hr}
    {α : Type} {tree : Sem α} (enc : α → PySem.Fin) {Q : α → Shared → Prop} {E : Value → Shared → Prop} (n : Nat) (osB : Bool → Bool → Bool → List Nat) (is ts : List Nat) (v : List Nat → List Nat → α) (upd news : List Nat → List Nat → List Obj) {t : Nat}
    (L : Lg xs h₀ h l) (hT : TopOf kt h) (hn : n₀ ≤ h₀.objs.size) (hb : ktBound kt ≤ n₀) (hx : ∀ a ∈ xs, kt.get a = none) (ht : t₁ ≤ t)
    (hinj : ∀ a b, enc a = enc b → a = b) (hh : HookS prog w kt n₀ t₁ dm um hook) (hi : allIns (l.map (·.2)) .nil 0 = true) (hul : ∀ tv av, (upd tv av).length = l.length) (hnl : ∀ tv av, (news tv av).length = is.length) (nd : is.Nodup) (hge : (is.all fun k => Nat.ble l.length k) = true)
    (H : ∀ b1 b2 b3, tellT1 (ranT prog w n₀ t₁ kt l dd uu dm um h g d os hook E enc tree n osB) l.length is b1 b2 b3 = tellT2 (ranT prog w n₀ t₁ kt l dd uu dm um h g d os hook E enc tree n osB) l n₀ t₁ enc is ts v upd news b1 b2 b3)
    (hq : ∀ h' t' tv av, tv.length = ts.length → av.length = is.length → Lg xs h₀ h' ((keysOf l).zip (upd tv av) ++ av.zip (news tv av)) → TopOf kt h' → t₁ ≤ t' → (∀ x ∈ tv, t₁ ≤ x) → Q (v tv av) ⟨h', g, d, t', os⟩) :
    wpAny (model prog w) (An dd uu) tree Q E ⟨h, g, d, t, os⟩ := by
  refine led_any enc n (osB (w.params.followText "special-get-raises") (w.params.followText "for-iterable-display-folded") (w.params.followText "comprehension-iter-twice")) (parS_eq w.params) hn L hT hb hx hi ht hh fun ad tk sp => ?_
  have z := congrFun (congrFun (congrFun (congrFun (H (w.params.followText "special-get-raises") (w.params.followText "for-iterable-display-folded") (w.params.followText "comprehension-iter-twice")) (fun f s => ∀ a, f = enc a → Q a s)) ad) tk) sp
  unfold tellT1 tellT2 ranT tell at z
  simp only [Prod.mk.injEq] at z
  obtain ⟨z1, z2, z3, z4, z5, z6⟩ := z
  refine phi_good z1 z2 z3 fun h' t' D ht' => ?_
  intro a ha
  have ha' := hinj _ _ ha
  subst ha'
  refine hq h' t' _ _ (by rw [List.length_map]) (by rw [List.length_map]) ?_ ?_ ht' (fun x hx => by obtain ⟨i, _, rfl⟩ := List.mem_map.mp hx; exact Nat.le_add_left ..)
  · have hg : ∀ (T : BT) (u w : List Obj), List.map T.get (List.range l.length) = u.map some → is.map T.get = w.map some → (List.range l.length ++ is).map T.get = (u ++ w).map some := fun T u w a b => by
      rw [List.map_append, List.map_append, a, b]
    have y := lg_after (V := mkV prog w (w.params.followText "special-get-raises") (w.params.followText "for-iterable-display-folded") (w.params.followText "comprehension-iter-twice") n₀ t₁ kt l dd uu dm um h g d os hook (fun f s => ∀ a, f = enc a → Q a s) E) L D (List.range l.length ++ is) _ (hg _ _ _ z4 z5) ?_
    · change Lg xs h₀ h' (((List.range l.length ++ is).map (locOf l n₀ ad)).zip _) at y
      rw [range_split l.length is _ _ _ _ _ rfl (hul _ _)] at y
      exact y
    · refine List.nodup_append.mpr ⟨List.nodup_range, nd, fun a ha b hb' e => ?_⟩
      have := Nat.le_of_ble_eq_true (List.all_eq_true.mp hge b hb')
      rw [List.mem_range] at ha
      omega
  · exact top_keeps hn L hT hb hx D.kb
theorem led_go {prog : Program} {w : World} {n₀ t₁ dd uu dm um : Nat} {kt : KT} {l : List (Addr × Obj)} {h₀ h : Heap} {xs : List Addr} {g : Array GenState} {d : Drawn} {os : OsState} {hook : Code → Option Hr}
    {α : Type} {tree : Sem α} (enc : α → PySem.Fin) {Q : α → Shared → Prop} {E : Value → Shared → Prop} (n : Nat) (os' is ts : List Nat) (v : List Nat → List Nat → α) (upd news : List Nat → List Nat → List Obj) {t : Nat}
    (L : Lg xs h₀ h l) (hT : TopOf kt h) (hn : n₀ ≤ h₀.objs.size) (hb : ktBound kt ≤ n₀) (hx : ∀ a ∈ xs, kt.get a = none) (ht : t₁ ≤ t)
    (hinj : ∀ a b, enc a = enc b → a = b) (hh : HookS prog w kt n₀ t₁ dm um hook) (hi : allIns (l.map (·.2)) .nil 0 = true) (hul : ∀ tv av, (upd tv av).length = l.length) (hnl : ∀ tv av, (news tv av).length = is.length) (nd : is.Nodup) (hge : (is.all fun k => Nat.ble l.length k) = true)
    (H : ∀ b1 b2 b3, tellT1 (ranT prog w n₀ t₁ kt l dd uu dm um h g d os hook E enc tree n (fun _ _ _ => os')) l.length is b1 b2 b3 = tellT2 (ranT prog w n₀ t₁ kt l dd uu dm um h g d os hook E enc tree n (fun _ _ _ => os')) l n₀ t₁ enc is ts v upd news b1 b2 b3)
    (hq : ∀ h' t' tv av, tv.length = ts.length → av.length = is.length → Lg xs h₀ h' ((keysOf l).zip (upd tv av) ++ av.zip (news tv av)) → TopOf kt h' → t₁ ≤ t' → (∀ x ∈ tv, t₁ ≤ x) → Q (v tv av) ⟨h', g, d, t', os⟩) :
    wpAny (model prog w) (An dd uu) tree Q E ⟨h, g, d, t, os⟩ := by
  exact led_goB enc n (fun _ _ _ => os') is ts v upd news L hT hn hb hx ht hinj hh hi hul hnl nd hge H hq
end Mine
namespace Mine
theorem zip_keys : ∀ l : List (Addr × Obj), (keysOf l).zip (l.map (·.2)) = l
  | [] => rfl
  | p :: l => by
    show (p.1, p.2) :: (keysOf l).zip (l.map (·.2)) = p :: l
    rw [zip_keys l]
theorem led_new {prog : Program} {w : World} {n₀ t₁ dd uu dm um : Nat} {kt : KT} {l : List (Addr × Obj)} {h₀ h : Heap} {xs : List Addr} {g : Array GenState} {d : Drawn} {os : OsState} {hook : Code → Option Hr}
    {α : Type} {tree : Sem α} (enc : α → PySem.Fin) {Q : α → Shared → Prop} {E : Value → Shared → Prop} (n : Nat) (os' is ts : List Nat) (v : List Nat → List Nat → α) (news : List Nat → List Nat → List Obj) {t : Nat}
    (L : Lg xs h₀ h l) (hT : TopOf kt h) (hn : n₀ ≤ h₀.objs.size) (hb : ktBound kt ≤ n₀) (hx : ∀ a ∈ xs, kt.get a = none) (ht : t₁ ≤ t)
    (hinj : ∀ a b, enc a = enc b → a = b) (hh : HookS prog w kt n₀ t₁ dm um hook) (hi : allIns (l.map (·.2)) .nil 0 = true) (hnl : ∀ tv av, (news tv av).length = is.length) (nd : is.Nodup) (hge : (is.all fun k => Nat.ble l.length k) = true)
    (H : ∀ b1 b2 b3, tellT1 (ranT prog w n₀ t₁ kt l dd uu dm um h g d os hook E enc tree n (fun _ _ _ => os')) l.length is b1 b2 b3 = tellT2 (ranT prog w n₀ t₁ kt l dd uu dm um h g d os hook E enc tree n (fun _ _ _ => os')) l n₀ t₁ enc is ts v (fun _ _ => l.map (·.2)) news b1 b2 b3)
    (hq : ∀ h' t' tv av, tv.length = ts.length → av.length = is.length → Lg xs h₀ h' (l ++ av.zip (news tv av)) → TopOf kt h' → t₁ ≤ t' → (∀ x ∈ tv, t₁ ≤ x) → Q (v tv av) ⟨h', g, d, t', os⟩) :
    wpAny (model prog w) (An dd uu) tree Q E ⟨h, g, d, t, os⟩ :=
  led_go enc n os' is ts v (fun _ _ => l.map (·.2)) news L hT hn hb hx ht hinj hh hi (fun _ _ => List.length_map _) hnl nd hge H fun h' t' tv av h1 h2 D => hq h' t' tv av h1 h2 (by rw [zip_keys] at D; exact D)
theorem led_n0 {prog : Program} {w : World} {n₀ t₁ dd uu : Nat} {kt : KT} {l : List (Addr × Obj)} {h₀ h : Heap} {xs : List Addr} {g : Array GenState} {d : Drawn} {os : OsState}
    {α : Type} {tree : Sem α} (enc : α → PySem.Fin) {Q : α → Shared → Prop} {E : Value → Shared → Prop} (n : Nat) (os' is ts : List Nat) (v : List Nat → List Nat → α) (news : List Nat → List Nat → List Obj) {t : Nat}
    (L : Lg xs h₀ h l) (hT : TopOf kt h) (hn : n₀ ≤ h₀.objs.size) (hb : ktBound kt ≤ n₀) (hx : ∀ a ∈ xs, kt.get a = none) (ht : t₁ ≤ t)
    (hinj : ∀ a b, enc a = enc b → a = b) (hi : allIns (l.map (·.2)) .nil 0 = true) (hnl : ∀ tv av, (news tv av).length = is.length) (nd : is.Nodup) (hge : (is.all fun k => Nat.ble l.length k) = true)
    (H : ∀ b1 b2 b3, tellT1 (ranT prog w n₀ t₁ kt l dd uu 0 0 h g d os (fun _ => none) E enc tree n (fun _ _ _ => os')) l.length is b1 b2 b3 = tellT2 (ranT prog w n₀ t₁ kt l dd uu 0 0 h g d os (fun _ => none) E enc tree n (fun _ _ _ => os')) l n₀ t₁ enc is ts v (fun _ _ => l.map (·.2)) news b1 b2 b3)
    (hq : ∀ h' t' tv av, tv.length = ts.length → av.length = is.length → Lg xs h₀ h' (l ++ av.zip (news tv av)) → TopOf kt h' → t₁ ≤ t' → (∀ x ∈ tv, t₁ ≤ x) → Q (v tv av) ⟨h', g, d, t', os⟩) :
    wpAny (model prog w) (An dd uu) tree Q E ⟨h, g, d, t, os⟩ :=
  led_new enc n os' is ts v news L hT hn hb hx ht hinj HookS.none hi hnl nd hge H hq
theorem led_g0 {prog : Program} {w : World} {n₀ t₁ dd uu : Nat} {kt : KT} {l : List (Addr × Obj)} {h₀ h : Heap} {xs : List Addr} {g : Array GenState} {d : Drawn} {os : OsState}
    {α : Type} {tree : Sem α} (enc : α → PySem.Fin) {Q : α → Shared → Prop} {E : Value → Shared → Prop} (n : Nat) (os' is ts : List Nat) (v : List Nat → List Nat → α) (upd news : List Nat → List Nat → List Obj) {t : Nat}
    (L : Lg xs h₀ h l) (hT : TopOf kt h) (hn : n₀ ≤ h₀.objs.size) (hb : ktBound kt ≤ n₀) (hx : ∀ a ∈ xs, kt.get a = none) (ht : t₁ ≤ t)
    (hinj : ∀ a b, enc a = enc b → a = b) (hi : allIns (l.map (·.2)) .nil 0 = true) (hul : ∀ tv av, (upd tv av).length = l.length) (hnl : ∀ tv av, (news tv av).length = is.length) (nd : is.Nodup) (hge : (is.all fun k => Nat.ble l.length k) = true)
    (H : ∀ b1 b2 b3, tellT1 (ranT prog w n₀ t₁ kt l dd uu 0 0 h g d os (fun _ => none) E enc tree n (fun _ _ _ => os')) l.length is b1 b2 b3 = tellT2 (ranT prog w n₀ t₁ kt l dd uu 0 0 h g d os (fun _ => none) E enc tree n (fun _ _ _ => os')) l n₀ t₁ enc is ts v upd news b1 b2 b3)
    (hq : ∀ h' t' tv av, tv.length = ts.length → av.length = is.length → Lg xs h₀ h' ((keysOf l).zip (upd tv av) ++ av.zip (news tv av)) → TopOf kt h' → t₁ ≤ t' → (∀ x ∈ tv, t₁ ≤ x) → Q (v tv av) ⟨h', g, d, t', os⟩) :
    wpAny (model prog w) (An dd uu) tree Q E ⟨h, g, d, t, os⟩ :=
  led_go enc n os' is ts v upd news L hT hn hb hx ht hinj HookS.none hi hul hnl nd hge H hq
noncomputable def encU (_ : Unit) : PySem.Fin := .done .next
theorem encU_inj (a b : Unit) (_ : encU a = encU b) : a = b := rfl
noncomputable def encV (v : Value) : PySem.Fin := .done (.ret v)
theorem encV_inj (a b : Value) (h : encV a = encV b) : a = b := by cases h; rfl
noncomputable def encA (v : Args) : PySem.Fin := .again (.builtin "" v)
theorem encA_inj (a b : Args) (h : encA a = encA b) : a = b := by cases h; rfl
noncomputable def encO : Option Value → PySem.Fin
  | some v => .done (.ret v)
  | none => .done .next
theorem encO_inj (a b : Option Value) (h : encO a = encO b) : a = b := by cases a <;> cases b <;> cases h <;> rfl
end Mine
end
section
open PySem PySem.W PyProof.Rows PySem.W.X
set_option Elab.async false
set_option maxRecDepth 100000
set_option maxHeartbeats 4000000
set_option linter.unusedVariables false
namespace Mine
structure Gw (h h' : Heap) : Prop where
  size : h.objs.size ≤ h'.objs.size
  free : ∀ a, a < h.objs.size → h.get? a = none → h'.get? a = none
theorem Gw.refl (h : Heap) : Gw h h := ⟨Nat.le_refl _, fun _ _ e => e⟩
theorem Gw.trans {h h' h'' : Heap} (x : Gw h h') (y : Gw h' h'') : Gw h h'' := ⟨Nat.le_trans x.size y.size, fun a l e => y.free a (Nat.lt_of_lt_of_le l x.size) (x.free a l e)⟩
theorem Gw.push (h : Heap) (o : Obj) : Gw h (h.push o) := by
  refine ⟨by rw [Heap.size_push]; exact Nat.le_succ _, fun a l e => ?_⟩
  have hne := Nat.ne_of_lt l
  have q : (h.push o).get? a = h.get? a := by
    cases h
    simp only [Heap.push, Heap.get?, Array.getElem?_push]
    rw [if_neg hne]
  rw [q]
  exact e
theorem Gw.update {h : Heap} {a : Addr} (f : Obj → Obj) (ha : (h.get? a).isSome) : Gw h (h.update a f) := by
  refine ⟨by rw [Heap.size_update]; exact Nat.le_refl _, fun b l e => ?_⟩
  have hne : a ≠ b := fun q => by rw [q, e] at ha; cases ha
  rw [Heap.get?_update_other _ _ hne]
  exact e
theorem runs_grow {M : Model} {Γ : Ctx} {p : Pos} {t : Sem PySem.Fin} {fs : List Frame} {s : Shared} {e : End} {s' : Shared} (r : Runs M Γ p t fs s e s') : Gw s.heap s'.heap := by
  induction r with
  | done => exact Gw.refl _
  | raise => exact Gw.refl _
  | yield => exact Gw.refl _
  | update h _ ih => exact (Gw.update _ h).trans ih
  | alloc _ ih => exact (Gw.push _ _).trans ih
  | call _ _ i1 i2 => exact i1.trans i2
  | callSusp _ ih => exact ih
  | resumeFresh _ _ _ _ i1 i2 => exact Gw.trans (h' := _) i1 i2
  | resumeSuspended _ _ _ _ i1 i2 => exact Gw.trans (h' := _) i1 i2
  | segRet _ _ i1 i2 => exact i1.trans i2
  | segGen _ _ i1 i2 => exact Gw.trans i1 i2
  | segSuspOut _ _ ih => exact ih
  | segSuspGen _ _ _ _ i1 i2 => exact Gw.trans i1 i2
  | _ => assumption
theorem runs_toks {M : Model} {Γ : Ctx} {p : Pos} {t : Sem PySem.Fin} {fs : List Frame} {s : Shared} {e : End} {s' : Shared} (r : Runs M Γ p t fs s e s') : s.toks ≤ s'.toks := by
  induction r with
  | done => exact Nat.le_refl _
  | raise => exact Nat.le_refl _
  | yield => exact Nat.le_refl _
  | fresh _ ih => exact Nat.le_trans (Nat.le_succ _) ih
  | call _ _ i1 i2 => exact Nat.le_trans i1 i2
  | callSusp _ ih => exact ih
  | resumeFresh _ _ _ _ i1 i2 => exact Nat.le_trans (m := _) i1 i2
  | resumeSuspended _ _ _ _ i1 i2 => exact Nat.le_trans (m := _) i1 i2
  | segRet _ _ i1 i2 => exact Nat.le_trans i1 i2
  | segGen _ _ i1 i2 => exact Nat.le_trans i1 i2
  | segSuspOut _ _ ih => exact ih
  | segSuspGen _ _ _ _ i1 i2 => exact Nat.le_trans i1 i2
  | _ => assumption
theorem codeAny_grow {M : Model} {A : Around} {c : Code} {R : Result → Shared → Prop} {s : Shared} (h : codeAny M A c R s) : codeAny M A c (fun r s' => R r s' ∧ Gw s.heap s'.heap ∧ s.toks ≤ s'.toks) s := by
  intro Γ p hc hΓ
  obtain ⟨r, s', hr, hR⟩ := h Γ p hc hΓ
  exact ⟨r, s', hr, hR, runs_grow hr, runs_toks hr⟩
structure Mk (h₀ h : Heap) (news : List (Addr × Obj)) : Prop where
  keep : ∀ b o, h₀.get? b = some o → h.get? b = some o
  nw : ∀ p ∈ news, h.get? p.1 = some p.2 ∧ h₀.get? p.1 = none
  nd : (news.map (·.1)).Nodup
theorem Mk.after {h₀ h : Heap} {news : List (Addr × Obj)} {needs : List Addr} (D : Mk h₀ h news) (G : Gw h₀ h) : After h₀ h needs [] (news.map (·.2)) (news.map (·.1)) := by
  refine ⟨G.size, fun b o e _ => D.keep b o e, fun i a x _ e => by simp at e, fun i a o e1 e2 => ?_, D.nd, fun x hx => ?_⟩
  · rw [List.getElem?_map] at e1 e2
    cases z : news[i]? with
    | none => rw [z] at e1; simp at e1
    | some p =>
      rw [z] at e1 e2
      simp only [Option.map_some, Option.some.injEq] at e1 e2
      subst e1 e2
      have y := D.nw p (List.mem_of_getElem? z)
      refine ⟨Nat.le_of_not_lt fun l => ?_, Heap.lt_size y.1, y.1⟩
      rw [G.free _ l y.2] at y
      cases y.1
  · obtain ⟨p, hp, rfl⟩ := List.mem_map.mp hx
    have y := D.nw p hp
    refine Nat.le_of_not_lt fun l => ?_
    rw [G.free _ l y.2] at y
    cases y.1
theorem spec_mk {prog : Program} {w : World} {kt : KT} {n₀ t₁ dm um : Nat} {c : Code} {needs : List Addr} {objs : List Obj} {σ : Hk} (hu : ∀ tv av, σ.upd tv av = [])
    (H : ∀ (h : Heap) (g : Array GenState) (d : Drawn) (t : Nat) (os : OsState), TopOf kt h → t₁ ≤ t → (∀ (i : Nat) a o, needs[i]? = some a → objs[i]? = some o → h.get? a = some o) → (∀ e ∈ σ.eqs, e.1 = e.2) →
      codeAny (model prog w) (An dm um) c (fun res s' => ∃ h' t' tv news, s' = ⟨h', g, d, t', os⟩ ∧ tv.length = σ.nt ∧ news.length = σ.nn ∧ (∀ x ∈ tv, t₁ ≤ x) ∧ Mk h h' news ∧ res = σ.res tv (news.map (·.1)) ∧ news.map (·.2) = σ.news tv (news.map (·.1))) ⟨h, g, d, t, os⟩) :
    SpecC prog w kt n₀ t₁ dm um c needs objs σ := by
  intro A h g d t os h1 h2 h3 hF hn ht hg _ he _ _
  refine code_An (d := dm) (u := um) h1 h2 h3 ?_
  refine codeAny_mono (codeAny_grow (H h g d t os hF ht hg he)) fun r s' x => ?_
  obtain ⟨⟨h', t', tv, news, rfl, a2, a3, a4, D, a5, a6⟩, G, a1⟩ := x
  refine ⟨h', t', tv, news.map (·.1), rfl, Nat.le_trans ht a1, a2, by rw [List.length_map]; exact a3, a4, a5, ?_⟩
  rw [hu, ← a6]
  exact D.after G
end Mine
end
section
open PySem PySem.W PyProof.Rows PySem.W.X
set_option Elab.async false
set_option maxRecDepth 100000
set_option maxHeartbeats 4000000
set_option linter.unusedVariables false
namespace Mine
noncomputable def refOut (prog : Program) (w : World) (kt : KT) (l : List (Addr × Obj)) (dd uu dm um : Nat) (hook : Code → Option Hr) (os' : List Nat) (n : Nat) {α : Type} (tree : Sem α) (enc : α → PySem.Fin) (ad tk : Nat → Nat) : SOut :=
  (SRes.run (simS (mkV prog w true true true 0 0 kt l dd uu dm um default #[] {} {} hook (fun _ _ => True) fun _ _ => True) ad tk (fun _ => (fun _ => default, [])) n default .any (PySem.W.R.bindR tree fun a => .pure (enc a)) (treeOf l) l.length 0) os' []).1
noncomputable def refObj (x : SOut) (i : Nat) : Obj := (x.T.get i).getD default
noncomputable def nth (l : List Nat) (k i : Nat) : Nat := l.getD (i - k) 0
theorem Lg.next {xs xs2 : List Addr} {h₀ h h' : Heap} {l l2 l' : List (Addr × Obj)} (D : Lg xs h₀ h l) (D2 : Lg xs2 h h' l2) (hk : ∀ a ∈ xs2, a ∈ keysOf l) (hs : ∀ p ∈ l', p ∈ l ∧ p.1 ∉ xs2) (nd : (keysOf l').Nodup) : Lg xs h₀ h' l' := by
  refine ⟨Nat.le_trans D.size D2.size, fun b o e hb => D2.keep b o (D.keep b o e hb) fun hm => ?_, fun p hp => D2.keep _ _ (D.get p (hs p hp).1) (hs p hp).2, nd, fun p hp => D.ge p (hs p hp).1⟩
  obtain ⟨p, hp, rfl⟩ := List.mem_map.mp (hk b hm)
  rcases D.ge p hp with q | q
  · exact hb q
  · exact Nat.lt_irrefl _ (Nat.lt_of_lt_of_le (Heap.lt_size e) q)
theorem Lg.one {xs : List Addr} {h₀ h : Heap} {l : List (Addr × Obj)} {a : Addr} {o : Obj} (D : Lg xs h₀ h l) (hm : (a, o) ∈ l) : Lg [a] h h [(a, o)] :=
  ⟨Nat.le_refl _, fun _ _ e _ => e, fun p hp => by cases List.mem_singleton.mp hp; exact D.get _ hm, by simp [keysOf], fun p hp => .inl (by cases List.mem_singleton.mp hp; exact .head _)⟩
theorem Lg.head {xs : List Addr} {h₀ h h' : Heap} {l : List (Addr × Obj)} {a : Addr} {o o' : Obj} (D : Lg xs h₀ h ((a, o) :: l)) (D2 : Lg [a] h h' [(a, o')]) : Lg xs h₀ h' ((a, o') :: l) := by
  have nd := D.nd
  unfold keysOf at nd
  rw [List.map_cons, List.nodup_cons] at nd
  have N := D.next D2 (l' := l) (fun b hb => by cases List.mem_singleton.mp hb; exact .head _) (fun p hp => ⟨.tail _ hp, fun hm => nd.1 (List.mem_singleton.mp hm ▸ List.mem_map_of_mem (f := (·.1)) hp)⟩) nd.2
  refine ⟨N.size, N.keep, fun p hp => ?_, D.nd, fun p hp => ?_⟩
  · rcases List.mem_cons.mp hp with rfl | hp
    · exact D2.get _ (.head _)
    · exact N.get p hp
  · rcases List.mem_cons.mp hp with rfl | hp
    · exact D.ge (a, o) (.head _)
    · exact D.ge p (.tail _ hp)
theorem zip_mem {α β : Type} : ∀ {l : List α} {l' : List β} {i : Nat} {a : α} {b : β}, l[i]? = some a → l'[i]? = some b → (a, b) ∈ l.zip l'
  | a :: l, b :: l', 0, _, _, h1, h2 => by cases h1; cases h2; exact .head _
  | a :: l, b :: l', i + 1, x, y, h1, h2 => .tail _ (zip_mem (by simpa using h1) (by simpa using h2))
  | [], _, _, _, _, h, _ => by simp at h
  | _ :: _, [], _, _, _, _, h => by simp at h
theorem Lg.after {xs : List Addr} {h h' : Heap} {upd news : List Obj} {av : List Nat} (D : Lg xs h h' (xs.zip upd ++ av.zip news)) (hu : upd.length = xs.length) (hn : news.length = av.length) : After h h' xs upd news av := by
  have hk : keysOf (xs.zip upd ++ av.zip news) = xs ++ av := by
    unfold keysOf
    rw [List.map_append, List.map_fst_zip (by omega), List.map_fst_zip (by omega)]
  have nd := D.nd
  rw [hk, List.nodup_append] at nd
  have ge : ∀ x ∈ av, h.objs.size ≤ x := fun x hx => by
    have : x ∈ keysOf (xs.zip upd ++ av.zip news) := by rw [hk]; exact List.mem_append.mpr (.inr hx)
    obtain ⟨p, hp, rfl⟩ := List.mem_map.mp this
    rcases D.ge p hp with q | q
    · exact absurd rfl (nd.2.2 _ q _ hx)
    · exact q
  refine ⟨D.size, fun b o e hb => D.keep b o e (by rw [hu, List.take_length] at hb; exact hb), fun i a x h1 h2 => D.get (a, x) (List.mem_append.mpr (.inl (zip_mem h1 h2))), fun i a o h1 h2 => ?_, nd.2.1, ge⟩
  have y := D.get (a, o) (List.mem_append.mpr (.inr (zip_mem h1 h2)))
  exact ⟨ge a (List.mem_of_getElem? h1), Heap.lt_size y, y⟩
theorem Lg.perm {xs : List Addr} {h₀ h : Heap} {l l' : List (Addr × Obj)} (D : Lg xs h₀ h l) (hp : l'.Perm l) : Lg xs h₀ h l' :=
  D.sub (fun p h => hp.mem_iff.mp h) (((hp.map (fun p : Addr × Obj => p.1)).nodup_iff).mpr D.nd)
end Mine
end
section
open PySem PySem.W PyProof.Rows PySem.W.X Mine
set_option Elab.async false
set_option maxRecDepth 100000
set_option maxHeartbeats 4000000
set_option linter.unusedVariables false
namespace Mine
noncomputable def eqsOf : List (VO × VO) → List (VO × VO)
  | [] => []
  | (a, b) :: q => match a with
    | .p _ => (.p True, b) :: eqsOf q
    | a => (a, b) :: eqsOf q
noncomputable def propsOf : List (VO × VO) → List Prop
  | [] => []
  | (a, b) :: q => match a with
    | .p P => P :: propsOf q
    | _ => propsOf q
theorem eqs_props : ∀ {q : List (VO × VO)}, (eqsOf q).map (·.1) = (eqsOf q).map (·.2) → (∀ P ∈ propsOf q, P) → q.map (·.1) = q.map (·.2)
  | [], _, _ => rfl
  | (a, b) :: q, h, hp => by
    cases a with
    | p P =>
      have e : P = True := propext ⟨fun _ => trivial, fun _ => hp P (.head _)⟩
      subst e
      simp only [eqsOf, List.map_cons, List.cons.injEq] at h ⊢
      exact ⟨h.1, eqs_props h.2 fun P hP => hp P (.tail _ hP)⟩
    | v x =>
      simp only [eqsOf, List.map_cons, List.cons.injEq] at h ⊢
      exact ⟨h.1, eqs_props h.2 hp⟩
    | o x =>
      simp only [eqsOf, List.map_cons, List.cons.injEq] at h ⊢
      exact ⟨h.1, eqs_props h.2 hp⟩
    | c x =>
      simp only [eqsOf, List.map_cons, List.cons.injEq] at h ⊢
      exact ⟨h.1, eqs_props h.2 hp⟩
noncomputable def tellF (x : SOut × List (VO × VO)) (n : Nat) (is : List Nat) : Bool × (List VO × List Prop) × Except Value PySem.Fin × List (Option Obj) × List (Option Obj) × Bool :=
  (x.1.ok, ((eqsOf x.2).map (·.1), propsOf x.2), x.1.res, (List.range n).map x.1.T.get, is.map x.1.T.get, is.all fun k => Nat.ble n k && Nat.blt k x.1.m)
theorem tell_of {x : SOut × List (VO × VO)} {n : Nat} {is : List Nat} {r : Except Value PySem.Fin} {u v : List (Option Obj)} {fs : List Prop} (e : tellF x n is = (true, ((eqsOf x.2).map (·.2), fs), r, u, v, true)) (hf : ∀ P ∈ fs, P) : tell x n is = (true, x.2.map (·.2), r, u, v, true) := by
  unfold tellF at e
  simp only [Prod.mk.injEq] at e
  obtain ⟨z1, ⟨z2, z7⟩, z3, z4, z5, z6⟩ := e
  unfold tell
  rw [z1, eqs_props z2 (z7.symm ▸ hf), z3, z4, z5, z6]
noncomputable abbrev ToldF := Bool × (List VO × List Prop) × Except Value PySem.Fin × List (Option Obj) × List (Option Obj) × Bool
noncomputable def tellCF1 (r : RanC) (n : Nat) (is : List Nat) (b1 b2 b3 : Bool) : TellC ToldF := fun h g d os Q₀ E₀ ad tk sp => tellF (r b1 b2 b3 h g d os Q₀ E₀ ad tk sp) n is
noncomputable def tellCF2 (r : RanC) (l : List (Addr × Obj)) (n₀ t₁ : Nat) (σ : Hk) (is ts : List Nat) (facts : Heap → (Nat → Nat) → (Nat → Nat) → List Prop) (b1 b2 b3 : Bool) : TellC ToldF := fun h g d os Q₀ E₀ ad tk sp =>
  (true, ((eqsOf (r b1 b2 b3 h g d os Q₀ E₀ ad tk sp).2).map (·.2), facts h ad tk), outOf (σ.res (ts.map fun i => tk i + t₁) (is.map (locOf l n₀ ad))), (σ.upd (ts.map fun i => tk i + t₁) (is.map (locOf l n₀ ad))).map some, (σ.news (ts.map fun i => tk i + t₁) (is.map (locOf l n₀ ad))).map some, true)
theorem spec_runF {prog : Program} {w : World} {kt : KT} {n₀ t₁ dm um dmh umh : Nat} {c : Code} {needs : List Addr} {objs : List Obj} {σ : Hk} {hook : Code → Option Hr} (n : Nat) (osB : Bool → Bool → Bool → List Nat) (is ts : List Nat) (facts : Heap → (Nat → Nat) → (Nat → Nat) → List Prop) (hb : ktBound kt ≤ n₀) (hh : HookS prog w kt n₀ t₁ dmh umh hook)
    (hi : allIns objs .nil 0 = true) (hl : objs.length = needs.length) (hu : ∀ tv av, (σ.upd tv av).length = needs.length) (hnt : ts.length = σ.nt) (hnn : is.length = σ.nn) (nd : is.Nodup)
    (H : ∀ b1 b2 b3, tellCF1 (ranC prog w n₀ t₁ kt (needs.zip objs) dm um dmh umh hook c n osB) needs.length is b1 b2 b3 = tellCF2 (ranC prog w n₀ t₁ kt (needs.zip objs) dm um dmh umh hook c n osB) (needs.zip objs) n₀ t₁ σ is ts facts b1 b2 b3)
    (hfacts : ∀ h ad tk, ∀ P ∈ facts h ad tk, P) : SpecC prog w kt n₀ t₁ dm um c needs objs σ := by
  refine spec_runB n osB is ts hb hh hi hl hu hnt hnn nd fun b1 b2 b3 => ?_
  funext h g d os Q₀ E₀ ad tk sp
  exact tell_of (congrFun (congrFun (congrFun (congrFun (congrFun (congrFun (congrFun (congrFun (congrFun (H b1 b2 b3) h) g) d) os) Q₀) E₀) ad) tk) sp) (hfacts h ad tk)
end Mine
end
section
open PySem PySem.W PyProof.Rows PySem.W.X
set_option Elab.async false
set_option maxRecDepth 100000
set_option maxHeartbeats 4000000
set_option linter.unusedVariables false
namespace Mine
theorem code_is {s k : String} {n : Nat} (h : Nat.beq (PySem.W.S.codeS s) n = true) (hk : PySem.code k = n) : s = k :=
  PySem.code_inj s k ((PySem.W.S.code_S s).trans ((Nat.eq_of_beq_eq_true h).trans hk.symm))
noncomputable def oAt (l : List Obj) (i : Nat) : Obj := l.getD i default
noncomputable def refA : Value → Addr
  | .ref a => a
  | _ => 0
noncomputable def tokOf : Value → Nat
  | .str _ t => t
  | .int _ t => t
  | _ => 0
noncomputable def strOf : Value → Str
  | .str s _ => s
  | _ => default
noncomputable def intOf : Value → Int
  | .int i _ => i
  | _ => 0
noncomputable def cdNs (o : Obj) : Addr := match o.data with
  | .cls cd => cd.ns
  | _ => 0
noncomputable def slAt (o : Obj) (i : Nat) : Value := match o.slots.toList.getD i none with
  | some v => v
  | none => .none
noncomputable def enAt (o : Obj) (i : Nat) : DictEntry := match o.data with
  | .dict es _ => es.toList.getD i ⟨0, .none, .none⟩
  | _ => ⟨0, .none, .none⟩
noncomputable def fiAt (o : Obj) (i : Nat) : Value := match o.data with
  | .fields vs => vs.toList.getD i .none
  | _ => .none
noncomputable def fiDrop (o : Obj) (i : Nat) : List Value := match o.data with
  | .fields vs => vs.toList.drop i
  | _ => []
noncomputable def fdAt (o : Obj) : FuncData := match o.data with
  | .func fd => fd
  | _ => default
noncomputable def cellA (o : Obj) : Addr := match o.data with
  | .cell (some v) => refA v
  | _ => 0
noncomputable def cloA (fd : FuncData) : Addr := match fd.closure with
  | p :: _ => p.2
  | [] => 0
noncomputable def keyTok (e : DictEntry) : Nat := tokOf e.key
noncomputable def pI : Value → Int × Nat
  | .int a t => (a, t)
  | _ => (0, 0)
noncomputable def sqAt (o : Obj) : List Value := match o.data with
  | .seq vs _ => vs.toList
  | _ => []
noncomputable def epAt (o : Obj) : Nat := match o.data with
  | .seq _ n => n
  | _ => 0
noncomputable def dEp (o : Obj) : Nat := match o.data with
  | .dict _ n => n
  | _ => 0
noncomputable def isInt : Value → Bool
  | .int _ _ => true
  | _ => false
noncomputable def isStr : Value → Bool
  | .str _ _ => true
  | _ => false
noncomputable def isRef : Value → Bool
  | .ref _ => true
  | _ => false
noncomputable def cA : Code → Args
  | .builtin _ a => a
  | .call _ a => a
  | _ => ⟨[], []⟩
noncomputable def cF : Code → Value
  | .call f _ => f
  | _ => .none
noncomputable def isN (n : Nat) : Value → Bool
  | .int (.ofNat m) _ => Nat.beq m n
  | _ => false
noncomputable def isAt (a : Nat) : Value → Bool
  | .ref b => Nat.beq b a
  | _ => false
noncomputable def pA (a : Args) (i : Nat) : Value := a.pos.getD i .none
noncomputable def kA (a : Args) (i : Nat) : Value := (a.kw.getD i (default, .none)).2
noncomputable def two (t : Value → Bool) (a : Args) : Bool := match Nat.beq a.pos.length 2 with
  | true => match t (pA a 0) with
    | true => t (pA a 1)
    | false => false
  | false => false
noncomputable def refInt (a : Args) : Bool := match Nat.beq a.pos.length 2 with
  | true => match isRef (pA a 0) with
    | true => isInt (pA a 1)
    | false => false
  | false => false
noncomputable def len1 (t : Value → Bool) (a : Args) : Bool := match Nat.beq a.pos.length 1 with
  | true => t (pA a 0)
  | false => false
noncomputable def callAt (n : Nat) (t : Value → Bool) (c : Code) : Bool := match len1 t (cA c) with
  | true => isAt n (cF c)
  | false => false
noncomputable def eqO : List Obj → List Obj → List (VO × VO)
  | [], _ => []
  | _, [] => []
  | a :: l, b :: l' => (.o a, .o b) :: eqO l l'
theorem eqO_of : ∀ {l l' : List Obj}, l.length = l'.length → (∀ e ∈ eqO l l', e.1 = e.2) → l = l'
  | [], [], _, _ => rfl
  | [], _ :: _, h, _ => nomatch h
  | _ :: _, [], h, _ => nomatch h
  | a :: l, b :: l', h, he => by
    rw [VO.o.inj (he _ (.head _)), eqO_of (Nat.succ.inj h) fun e q => he e (.tail _ q)]
noncomputable def strict {α : Sort _} (n : Nat) (f : Nat → α) : α := match n with
  | 0 => f 0
  | m + 1 => f (m + 1)
theorem strict_eq {α : Sort _} (n : Nat) (f : Nat → α) : strict n f = f n := by cases n <;> rfl
noncomputable def strictI {α : Sort _} (v : Value) (f : Int → Nat → α) : α := match v with
  | .int x t => f x t
  | v => f (intOf v) (tokOf v)
theorem strictI_eq {α : Sort _} (v : Value) (f : Int → Nat → α) : strictI v f = f (intOf v) (tokOf v) := by cases v <;> rfl
structure GH where
  needs : List Addr
  more : List (List Obj → List Addr) := []
  code : List Obj → Code
  props : List Obj → List Prop := fun _ => []
  objs : List Obj → List Obj
  hk : List Obj → Hk
noncomputable def GH.eqs (G : GH) (c : Code) (l : List Obj) : List (VO × VO) := (.c c, .c (G.code l)) :: (((G.props l).map fun P => (.p P, .p True)) ++ eqO l (G.objs l))
noncomputable def GH.hr (G : GH) (c : Code) : Hr :=
  { needs := G.needs, more := G.more, got := fun l => match Nat.beq l.length (G.objs l).length with
    | true => some { G.hk l with eqs := G.eqs c l }
    | false => none }
theorem GH.ok {G : GH} {prog : Program} {w : World} {kt : KT} {n₀ t₁ dm um : Nat} {c c₀ : Code} {cf : Code → Code} (hc : cf c = c₀) (H : ∀ l, l.length = (G.objs l).length → (∀ P ∈ G.props l, P) → c₀ = G.code l → SpecC prog w kt n₀ t₁ dm um c (allOf l G.more G.needs) (G.objs l) { G.hk l with eqs := [] })
    (l : List Obj) (σ : Hk) (h : (G.hr c₀).got l = some σ) : SpecC prog w kt n₀ t₁ dm um c ((G.hr c₀).all l) l σ := by
  change (match Nat.beq l.length (G.objs l).length with
    | true => some { G.hk l with eqs := G.eqs c₀ l }
    | false => none) = some σ at h
  cases hl : Nat.beq l.length (G.objs l).length with
  | false => rw [hl] at h; cases h
  | true =>
    rw [hl] at h
    cases h
    intro A h g d t os a1 a2 a3 a4 a5 a6 a7 a8 he a10 a11
    have q1 := VO.c.inj (he _ (.head _))
    have q2 : ∀ P ∈ G.props l, P := fun P hP => by
      have := VO.p.inj (he (.p P, .p True) (.tail _ (List.mem_append.mpr (.inl (List.mem_map.mpr ⟨P, hP, rfl⟩)))))
      exact this ▸ trivial
    have q3 := eqO_of (Nat.eq_of_beq_eq_true hl) fun e q => he e (.tail _ (List.mem_append.mpr (.inr q)))
    have S := H l (Nat.eq_of_beq_eq_true hl) q2 q1
    rw [← q3] at S
    exact S A h g d t os a1 a2 a3 a4 a5 a6 a7 a8 (fun _ q => (nomatch q)) a10 a11
noncomputable def bHook (n : Nat) (test : Args → Bool) (G : Args → GH) (c : Code) : Option Hr := match c with
  | .builtin id a => match Nat.beq (PySem.W.S.codeS id) n with
    | true => match test a with
      | true => some ((G a).hr (.builtin "" a))
      | false => none
    | false => none
  | _ => none
theorem bHook_ok {prog : Program} {w : World} {kt : KT} {n₀ t₁ dm um : Nat} {n : Nat} {test : Args → Bool} {G : Args → GH} {name : String} (hn : PySem.code name = n)
    (H : ∀ a l, test a = true → l.length = ((G a).objs l).length → (∀ P ∈ (G a).props l, P) → SpecC prog w kt n₀ t₁ dm um (match (G a).code l with | .builtin _ b => .builtin name b | c => c) (allOf l (G a).more (G a).needs) ((G a).objs l) { (G a).hk l with eqs := [] }) : HookS prog w kt n₀ t₁ dm um (bHook n test G) := by
  intro c r objs σ h1 h2
  unfold bHook at h1
  split at h1
  · rename_i id a
    cases hb : Nat.beq (PySem.W.S.codeS id) n with
    | false => rw [hb] at h1; cases h1
    | true =>
      rw [hb] at h1
      cases ht : test a with
      | false => rw [ht] at h1; cases h1
      | true =>
        rw [ht] at h1
        cases h1
        have hk := code_is hb hn
        subst hk
        refine GH.ok (G := G a) (cf := fun c => match c with | .builtin _ b => .builtin "" b | c => c) rfl (fun l hz hp hq => ?_) objs σ h2
        have z := H a l ht hz hp
        rw [← hq] at z
        exact z
  · cases h1
noncomputable def cHook (sel : Code → Bool) (G : Code → GH) (c : Code) : Option Hr := match sel c with
  | true => some ((G c).hr c)
  | false => none
theorem cHook_ok {prog : Program} {w : World} {kt : KT} {n₀ t₁ dm um : Nat} {sel : Code → Bool} {G : Code → GH}
    (H : ∀ c l, l.length = ((G c).objs l).length → (∀ P ∈ (G c).props l, P) → SpecC prog w kt n₀ t₁ dm um ((G c).code l) (allOf l (G c).more (G c).needs) ((G c).objs l) { (G c).hk l with eqs := [] }) : HookS prog w kt n₀ t₁ dm um (cHook sel G) := by
  intro c r objs σ h1 h2
  unfold cHook at h1
  cases hb : sel c with
  | false => rw [hb] at h1; cases h1
  | true =>
    rw [hb] at h1
    cases h1
    refine GH.ok (G := G c) (cf := id) rfl (fun l hz hp hq => ?_) objs σ h2
    have z := H c l hz hp
    rw [← hq] at z
    exact z
theorem list_is {l : List Obj} {n : Nat} (h : l.length = n) : l = (List.range n).map (oAt l) := by
  subst h
  refine List.ext_getElem (by simp) fun i h1 h2 => ?_
  simp only [List.getElem_map, List.getElem_range]
  unfold oAt
  rw [List.getD_eq_getElem?_getD, List.getElem?_eq_getElem h1, Option.getD_some]
theorem bHook_n {prog : Program} {w : World} {kt : KT} {n₀ t₁ dm um : Nat} {n : Nat} {test : Args → Bool} {G : Args → GH} {name : String} (hn : PySem.code name = n) (m : Nat) (hm : ∀ a l, ((G a).objs l).length = m)
    (H : ∀ a f, (∀ P ∈ (G a).props ((List.range m).map f), P) → SpecC prog w kt n₀ t₁ dm um (match (G a).code ((List.range m).map f) with | .builtin _ b => .builtin name b | c => c) (allOf ((List.range m).map f) (G a).more (G a).needs) ((G a).objs ((List.range m).map f)) { (G a).hk ((List.range m).map f) with eqs := [] }) : HookS prog w kt n₀ t₁ dm um (bHook n test G) :=
  bHook_ok hn fun a l _ hl hp => by
    have e := list_is (hl.trans (hm a l))
    have z := H a (oAt l)
    rw [← e] at z
    exact z hp
theorem bHook_t {prog : Program} {w : World} {kt : KT} {n₀ t₁ dm um : Nat} {n : Nat} {test : Args → Bool} {G : Args → GH} {name : String} (hn : PySem.code name = n) (m : Nat) (hm : ∀ a l, ((G a).objs l).length = m)
    (H : ∀ a f, test a = true → (∀ P ∈ (G a).props ((List.range m).map f), P) → SpecC prog w kt n₀ t₁ dm um (match (G a).code ((List.range m).map f) with | .builtin _ b => .builtin name b | c => c) (allOf ((List.range m).map f) (G a).more (G a).needs) ((G a).objs ((List.range m).map f)) { (G a).hk ((List.range m).map f) with eqs := [] }) : HookS prog w kt n₀ t₁ dm um (bHook n test G) :=
  bHook_ok hn fun a l ht hl hp => by
    have e := list_is (hl.trans (hm a l))
    have z := H a (oAt l)
    rw [← e] at z
    exact z ht hp
theorem cHook_n {prog : Program} {w : World} {kt : KT} {n₀ t₁ dm um : Nat} {sel : Code → Bool} {G : Code → GH} (m : Nat) (hm : ∀ c l, ((G c).objs l).length = m)
    (H : ∀ c f, (∀ P ∈ (G c).props ((List.range m).map f), P) → SpecC prog w kt n₀ t₁ dm um ((G c).code ((List.range m).map f)) (allOf ((List.range m).map f) (G c).more (G c).needs) ((G c).objs ((List.range m).map f)) { (G c).hk ((List.range m).map f) with eqs := [] }) : HookS prog w kt n₀ t₁ dm um (cHook sel G) :=
  cHook_ok fun c l hl hp => by
    have e := list_is (hl.trans (hm c l))
    have z := H c (oAt l)
    rw [← e] at z
    exact z hp
end Mine
end
section
open PySem PySem.W PyProof.Rows PySem.W.X
set_option Elab.async false
set_option maxRecDepth 100000
set_option maxHeartbeats 4000000
namespace Mine
structure Halt (P : Prop) : Prop where
  out : P
theorem halt {P : Prop} (h : Halt P) : P := h.out
structure Md (h₀ h : Heap) (news : List (Addr × Obj)) : Prop where
  keep : ∀ b o, h₀.get? b = some o → h.get? b = some o
  nw : ∀ p ∈ news, h.get? p.1 = some p.2 ∧ h₀.get? p.1 = none
  ord : (news.map (·.1)).Pairwise (· > ·)
theorem Md.start (h : Heap) : Md h h [] := ⟨fun _ _ e => e, fun _ hp => (nomatch hp), List.Pairwise.nil⟩
section
variable {h₀ h h' : Heap} {news : List (Addr × Obj)}
theorem Md.get (D : Md h₀ h news) {a : Addr} {o : Obj} (hm : (a, o) ∈ news) : h.get? a = some o := (D.nw _ hm).1
theorem Md.alloc (D : Md h₀ h news) {o : Obj} (hf : o.isFreed = false) : Md h₀ (h.push o) ((h.objs.size, o) :: news) := by
  refine ⟨fun b o' e => Heap.get?_push_of_some _ (D.keep b o' e), fun p hp => ?_, ?_⟩
  · rcases List.mem_cons.mp hp with rfl | hp
    · refine ⟨Heap.get?_push_size _ hf, ?_⟩
      cases q : h₀.get? h.objs.size with
      | none => rfl
      | some o' => exact absurd (Heap.lt_size (D.keep _ _ q)) (Nat.lt_irrefl _)
    · exact ⟨Heap.get?_push_of_some _ (D.nw p hp).1, (D.nw p hp).2⟩
  · refine List.Pairwise.cons (fun b hb => ?_) D.ord
    obtain ⟨⟨b', ob⟩, hp, rfl⟩ := List.mem_map.mp hb
    exact Heap.lt_size (D.nw _ hp).1
theorem Md.update (D : Md h₀ h news) {i : Nat} {a : Addr} {o : Obj} {f : Obj → Obj} (hi : news[i]? = some (a, o)) (hf : (f o).isFreed = false) : Md h₀ (h.update a f) (news.set i (a, f o)) := by
  have z := D.nw (a, o) (List.mem_of_getElem? hi)
  have sp := PySem.W.X.pairwise_split hi
  have hs : Heap.SameBut a h (h.update a f) := Heap.SameBut.update ..
  have ord' := D.ord
  rw [sp, List.map_append, List.map_cons] at ord'
  have p1 : ∀ p ∈ news.take i, p.1 ≠ a := fun p hp => Nat.ne_of_gt ((List.pairwise_append.mp ord').2.2 p.1 (List.mem_map_of_mem hp) a (.head _))
  have p2 : ∀ p ∈ news.drop (i + 1), p.1 ≠ a := fun p hp => Nat.ne_of_lt ((List.pairwise_cons.mp (List.pairwise_append.mp ord').2.1).1 p.1 (List.mem_map_of_mem hp))
  have ge : (h.update a f).get? a = some (f o) := by first | exact Heap.get?_update_self f z.1 hf | exact Heap.get?_update_self _ z.1 hf
  have e : news.set i (a, f o) = news.take i ++ (a, f o) :: news.drop (i + 1) := by
    obtain ⟨hl, _⟩ := List.getElem?_eq_some_iff.mp hi
    exact List.set_eq_take_append_cons_drop.trans (if_pos hl)
  have ne : ∀ b o', h₀.get? b = some o' → b ≠ a := fun b o' e' z' => by subst z'; rw [e'] at z; cases z.2
  refine ⟨fun b o' e' => (hs.2 b (ne b o' e')).trans (D.keep b o' e'), fun p hp => ?_, ?_⟩
  · rw [e] at hp
    rcases List.mem_append.mp hp with hp | hp
    · have y := D.nw p (by rw [sp]; exact List.mem_append.mpr (.inl hp))
      exact ⟨(hs.2 _ (p1 p hp)).trans y.1, y.2⟩
    · rcases List.mem_cons.mp hp with rfl | hp
      · exact ⟨ge, z.2⟩
      · have y := D.nw p (by rw [sp]; exact List.mem_append.mpr (.inr (.tail _ hp)))
        exact ⟨(hs.2 _ (p2 p hp)).trans y.1, y.2⟩
  · rw [e, List.map_append, List.map_cons]; exact ord'
theorem Md.keeps (D : Md h₀ h news) (hk : ∀ b o, h.get? b = some o → h'.get? b = some o) : Md h₀ h' news :=
  ⟨fun b o e => hk b o (D.keep b o e), fun p hp => ⟨hk _ _ (D.nw p hp).1, (D.nw p hp).2⟩, D.ord⟩
end
section
variable {M : Model} {A : Around} {E : Value → Shared → Prop} {h₀ h : Heap} {g : Array GenState} {d : Drawn} {t : Nat} {os : OsState} {news : List (Addr × Obj)}
theorem m_alloc {o : Obj} {Q : Addr → Shared → Prop} (D : Md h₀ h news) (hf : o.isFreed = false) (hq : ∀ a h', Md h₀ h' ((a, o) :: news) → Q a ⟨h', g, d, t, os⟩) : wpAny M A (alloc o) Q E ⟨h, g, d, t, os⟩ :=
  wpAny_alloc' (hq _ _ (D.alloc hf))
theorem m_update {a : Addr} {f : Obj → Obj} {o : Obj} {Q : Unit → Shared → Prop} (D : Md h₀ h news) (i : Nat) (hi : news[i]? = some (a, o)) (hf : (f o).isFreed = false)
    (hq : ∀ h', Md h₀ h' (news.set i (a, f o)) → Q () ⟨h', g, d, t, os⟩) : wpAny M A (update a f) Q E ⟨h, g, d, t, os⟩ := wpAny_update' (D.get (List.mem_of_getElem? hi)) (hq _ (D.update hi hf))
theorem m_updatePart {a : Addr} {part : Option Value} {f : Obj → Obj} {o : Obj} {Q : Unit → Shared → Prop} (D : Md h₀ h news) (i : Nat) (hi : news[i]? = some (a, o)) (hf : (f o).isFreed = false)
    (hq : ∀ h', Md h₀ h' (news.set i (a, f o)) → Q () ⟨h', g, d, t, os⟩) : wpAny M A (updatePart a part f) Q E ⟨h, g, d, t, os⟩ := wpAny_updatePart' (D.get (List.mem_of_getElem? hi)) (hq _ (D.update hi hf))
end
end Mine
end
section
open PySem PySem.W PyProof.Rows PySem.W.X Mine
set_option Elab.async false
set_option maxRecDepth 100000
set_option maxHeartbeats 4000000
namespace Mine
section
variable {prog : Program} {w : World} {A : Around} {E : Value → Shared → Prop} {h₀ h : Heap} {g : Array GenState} {d : Drawn} {t : Nat} {os : OsState} {news : List (Addr × Obj)}
theorem k_isInst {a : Addr} {o : Obj} {T U : String} {Q : Bool → Shared → Prop} (ho : h.get? a = some o) (hc : o.cls = .type T) (e : isSubtype (.type T) (.type U) = pure true)
    (hq : Q true ⟨h, g, d, t, os⟩) : wpAny (model prog w) A (isInstance (.ref a) (.type U)) Q E ⟨h, g, d, t, os⟩ := by
  unfold isInstance
  refine wpAny_bind (wpAny_bind (wpAny_loadPart' ho (wpAny_pure ?_)))
  rw [hc]
  exact wpAny_of_eq e hq
theorem k_special {a : Addr} {o : Obj} {T : String} {name : Str} {r : Option Value} {Q : Option Value → Shared → Prop} (ho : h.get? a = some o) (hc : o.cls = .type T) (e : typeLookup (.type T) name = pure r)
    (hq : Q r ⟨h, g, d, t, os⟩) : wpAny (model prog w) A (specialOf (.ref a) name) Q E ⟨h, g, d, t, os⟩ := by
  unfold specialOf
  refine wpAny_bind (wpAny_bind (wpAny_loadPart' ho (wpAny_pure ?_)))
  rw [hc]
  exact wpAny_of_eq e hq
theorem k_nsGet {a : Addr} {o : Obj} {name : Str} {r : Option Value} {Q : Option Value → Shared → Prop} (ho : h.get? a = some o) (e : nsLook name o = pure r)
    (hq : Q r ⟨h, g, d, t, os⟩) : wpAny (model prog w) A (nsGet a name) Q E ⟨h, g, d, t, os⟩ := by
  unfold nsGet
  exact wpAny_bind (wpAny_loadPart' ho (wpAny_of_eq e hq))
theorem k_nsSet {a : Addr} {c : Value} {dd : Option Addr} {es : Array DictEntry} {n : Nat} {sl : Array (Option Value)} {name : Str} {v : Value} {Q : Unit → Shared → Prop} (D : Md h₀ h news) (i : Nat)
    (hi : news[i]? = some (a, ⟨c, dd, .dict es n, sl⟩)) (e : aRefKeyMayBeTheName name es = false) (hne : name.cps.isEmpty = false) (o' : Obj)
    (ho' : Obj.putName name (reduceHash (w.params.strHash name.cps)) (.str name t) v ⟨c, dd, .dict es n, sl⟩ = o') (hf : o'.isFreed = false)
    (hq : ∀ h', Md h₀ h' (news.set i (a, o')) → Q () ⟨h', g, d, t + 1, os⟩) : wpAny (model prog w) A (nsSet a name v) Q E ⟨h, g, d, t, os⟩ := by
  unfold nsSet strHash
  refine wpAny_bind (wpAny_bind (wpAny_askSetting (wpAny_pure ?_)))
  refine wpAny_bind (wpAny_mkText ?_)
  refine wpAny_bind (wpAny_loadPart' (D.get (List.mem_of_getElem? hi)) ?_)
  show wpAny _ _ (if aRefKeyMayBeTheName name es = true then _ else _) _ _ _
  rw [e, hne]
  subst ho'
  exact m_updatePart D i hi hf hq
theorem k_nsDel {a : Addr} {o o' : Obj} {name : Str} {Q : Bool → Shared → Prop} (D : Md h₀ h news) (i : Nat) (hi : news[i]? = some (a, o)) (e : nsHas name o = pure true)
    (ho' : Obj.dropName name o = o') (hf : o'.isFreed = false)
    (hq : ∀ h', Md h₀ h' (news.set i (a, o')) → Q true ⟨h', g, d, t, os⟩) : wpAny (model prog w) A (nsDel a name) Q E ⟨h, g, d, t, os⟩ := by
  unfold nsDel
  refine wpAny_bind (wpAny_loadPart' (D.get (List.mem_of_getElem? hi)) (wpAny_bind (wpAny_of_eq e ?_)))
  subst ho'
  exact wpAny_bind (m_updatePart D i hi hf fun h' D' => wpAny_pure (hq h' D'))
theorem k_setSlot {a : Addr} {o o' : Obj} {k : Nat} {v : Option Value} {Q : Unit → Shared → Prop} (D : Md h₀ h news) (i : Nat) (hi : news[i]? = some (a, o)) (hk : k < sizeLine)
    (ho' : { o with slots := (o.slots ++ Array.replicate (k + 1 - o.slots.size) none).setIfInBounds k v } = o') (hf : o'.isFreed = false)
    (hq : ∀ h', Md h₀ h' (news.set i (a, o')) → Q () ⟨h', g, d, t, os⟩) : wpAny (model prog w) A (setSlotAt a k v) Q E ⟨h, g, d, t, os⟩ := by
  unfold setSlotAt
  have : ¬ (k ≥ sizeLine) := Nat.not_le.mpr hk
  rw [if_neg this]
  subst ho'
  exact wpAny_bind (wpAny_pure (m_updatePart D i hi hf hq))
theorem k_slotAt {a : Addr} {o : Obj} {k : Nat} {r : Option Value} {Q : Option Value → Shared → Prop} (ho : h.get? a = some o) (e : (o.slots[k]?).join = r) (hq : Q r ⟨h, g, d, t, os⟩) :
    wpAny (model prog w) A (slotAt a k) Q E ⟨h, g, d, t, os⟩ := by
  unfold slotAt
  subst e
  exact wpAny_bind (wpAny_loadPart' ho (wpAny_pure hq))
theorem k_updateCls {a : Addr} {o o' : Obj} {c : ClassData} {f : ClassData → ClassData} {Q : Unit → Shared → Prop} (D : Md h₀ h news) (i : Nat) (hi : news[i]? = some (a, o)) (hc : o.data = .cls c)
    (ho' : Obj.mapCls f o = o') (hf : o'.isFreed = false) (hp : o'.data.pastItsLine = none)
    (hq : ∀ h', Md h₀ h' (news.set i (a, o')) → Q () ⟨h', g, d, t, os⟩) : wpAny (model prog w) A (updateCls a f) Q E ⟨h, g, d, t, os⟩ := by
  unfold updateCls lookBehind
  refine wpAny_bind (wpAny_load' (D.get (List.mem_of_getElem? hi)) ?_)
  rw [hc]
  subst ho'
  refine wpAny_bind (m_update D i hi hf fun h' D' => ?_)
  have hget : (news.set i (a, Obj.mapCls f o))[i]? = some (a, Obj.mapCls f o) := by
    obtain ⟨hl, _⟩ := List.getElem?_eq_some_iff.mp hi
    simp [hl]
  refine wpAny_bind (wpAny_loadPart' (D'.get (List.mem_of_getElem? hget)) ?_)
  rw [hp]
  exact wpAny_pure (hq h' D')
theorem k_mroC {a : Addr} {o : Obj} {c : ClassData} {Q : List Value → Shared → Prop} (ho : h.get? a = some o) (hc : o.data = .cls c) (hq : Q c.mro ⟨h, g, d, t, os⟩) :
    wpAny (model prog w) A (mroOf (.ref a)) Q E ⟨h, g, d, t, os⟩ := by
  show wpAny _ _ (classData a >>= fun c => pure c.mro) _ _ _
  unfold classData
  refine wpAny_bind (wpAny_bind (wpAny_load' ho ?_))
  rw [hc]
  exact wpAny_pure (wpAny_pure hq)
end
end Mine
end
section
open PySem PySem.W PyProof.Rows PySem.W.X Mine
set_option Elab.async false
set_option maxRecDepth 100000
set_option maxHeartbeats 4000000
set_option linter.unusedVariables false
namespace Mine
theorem md_of_mem {h₀ h : Heap} {news : List (Addr × Obj)} (D : Mem h₀ h [] news) : Md h₀ h news :=
  ⟨fun b o e => D.keep b o e (by simp [away]), D.nw, D.ord⟩
local macro_rules | `(tactic| x_close) => `(tactic| (exact ⟨_, _, _, rfl, rfl, md_of_mem (by assumption)⟩))
theorem collect1 {prog : Program} {w : World} {d u : Nat} {h₀ : Heap} {g : Array GenState} {dr : Drawn} {t : Nat} {os : OsState} {S : Addr} {t4 n : Nat}
  (hS : h₀.get? S = some { cls := .type "list", data := .seq #[.str "obj" t4] n }) :
  wpAny (model prog w) (An d u) (runValue (.builtin "proto.collect" ⟨[.ref S], []⟩)) (fun v s' => ∃ L h' n', v = .ref L ∧ s' = ⟨h', g, dr, t, os⟩ ∧ Md h₀ h' [(L, { cls := .type "list", data := .seq #[.str "obj" t4] n' })]) (fun _ _ => False) ⟨h₀, g, dr, t, os⟩ := by
  x_run
noncomputable abbrev ent (hh : Str → Int) (tt : Str → Nat) (k : Str) (v : Value) : DictEntry := ⟨hh k, .str k (tt k), v⟩
noncomputable abbrev nsEnts (hh : Str → Int) (tt : Str → Nat) (t1 t2 t3 : Nat) (S f0 f1 f2 f3 f4 f5 st : Addr) : Array DictEntry :=
  #[ent hh tt "__module__" (.str "cpy313.functools" t1), ent hh tt "__qualname__" (.str "cmp_to_key.<locals>.K" t2), ent hh tt "__firstlineno__" (.int 4 t3),
    ent hh tt "__slots__" (.ref S), ent hh tt "__init__" (.ref f0), ent hh tt "__lt__" (.ref f1), ent hh tt "__gt__" (.ref f2), ent hh tt "__eq__" (.ref f3), ent hh tt "__le__" (.ref f4), ent hh tt "__ge__" (.ref f5),
    ent hh tt "__hash__" .none, ent hh tt "__static_attributes__" (.ref st)]
theorem wpE {α : Type} {M : Model} {A : Around} {t : Sem α} {Q : α → Shared → Prop} {E : Value → Shared → Prop} {s : Shared} (h : wpAny M A t Q (fun _ _ => False) s) : wpAny M A t Q E s :=
  wpAny_mono h (fun _ _ x => x) fun _ _ x => x.elim
theorem k_collect {prog : Program} {w : World} {dd u : Nat} {E : Value → Shared → Prop} {h₀ : Heap} {g : Array GenState} {d : Drawn} {t : Nat} {os : OsState} {Q : List Value → Shared → Prop} {S : Addr} {t4 n : Nat} {v : Value} (hv : v = .ref S)
  (hS : h₀.get? S = some { cls := .type "list", data := .seq #[.str "obj" t4] n })
  (hq : ∀ h', (∀ b o, h₀.get? b = some o → h'.get? b = some o) → Q [.str "obj" t4] ⟨h', g, d, t, os⟩) : wpAny (model prog w) (An dd u) (collect v) Q E ⟨h₀, g, d, t, os⟩ := by
  subst hv
  unfold collect
  refine wpAny_bind (wpAny_mono (wpE (collect1 hS)) (fun v s' hx => ?_) fun _ _ x => x)
  obtain ⟨L, h', n', rfl, rfl, D⟩ := hx
  refine wpAny_bind (wpAny_load' (D.get (.head _)) ?_)
  exact wpAny_pure (hq h' D.keep)
theorem slotsRead {prog : Program} {w : World} {dd u : Nat} {E : Value → Shared → Prop} {h₀ : Heap} {g : Array GenState} {d : Drawn} {t : Nat} {os : OsState} {Q : Builtin.Slots.Plan → Shared → Prop}
  {S f0 f1 f2 f3 f4 f5 st : Addr} {t1 t2 t3 t4 : Nat} {hh : Str → Int} {tt : Str → Nat} {bases : List Value} (hb : bases = [.type "object"])
  (hS : h₀.get? S = some { cls := .type "list", data := .seq #[.str "obj" t4] 0 })
  (hq : ∀ h', (∀ b o, h₀.get? b = some o → h'.get? b = some o) → Q { names := ["obj"], dict := false, weak := false, inherited := [] } ⟨h', g, d, t, os⟩) :
  wpAny (model prog w) (An dd u) (Builtin.Slots.read "K" bases (nsEnts hh tt t1 t2 t3 S f0 f1 f2 f3 f4 f5 st)) Q E ⟨h₀, g, d, t, os⟩ := by
  subst hb
  have c1 : Builtin.Slots.bestBase [.type "object"] = pure (.type "object") := by kernel_rfl
  have c2 : Builtin.Slots.slotNamesOf (.type "object") = pure [] := by kernel_rfl
  have c3 : Builtin.Slots.givesDict (.type "object") = pure false := by kernel_rfl
  have c4 : Builtin.Slots.givesWeak (.type "object") = pure false := by kernel_rfl
  have c5 : Builtin.Slots.varSize (.type "object") = pure false := by kernel_rfl
  unfold Builtin.Slots.read
  iterate 20 (first | wp_step)
  refine k_collect (S := S) rfl hS fun h' hk => ?_
  have c6 : Builtin.Slots.isIdentifier (Str.ofString "obj") = some true := by kernel_rfl
  repeat (first | wp_step | (rw [c6]) | (with_reducible refine wpAny_ite_false (by kernel_rfl) ?_) | (with_reducible refine wpAny_ite_true (by kernel_rfl) ?_))
  have key : ∀ p, p = ({ names := ["obj"], dict := false, weak := false, inherited := [] } : Builtin.Slots.Plan) → Q p ⟨h', g, d, t, os⟩ := fun p e => e ▸ hq h' hk
  exact key _ (by kernel_rfl)
end Mine
end
section
open PySem PySem.W PyProof.Rows PySem.W.X Mine
set_option Elab.async false
set_option maxRecDepth 100000
set_option maxHeartbeats 4000000
set_option linter.unusedVariables false
namespace Mine
section
variable {prog : Program} {w : World} {A : Around} {E : Value → Shared → Prop} {h₀ h : Heap} {g : Array GenState} {d : Drawn} {t : Nat} {os : OsState} {news : List (Addr × Obj)}
theorem fil_self (a : Addr) : List.filter (fun x => x != Value.ref a) [Value.ref a, Value.type "object"] = [Value.type "object"] := by
  have h1 : (Value.ref a != Value.ref a) = false := bne_self_eq_false _
  have h2 : (Value.type "object" != Value.ref a) = true := rfl
  simp only [List.filter, h1, h2]
theorem k_classData {a : Addr} {o : Obj} {c : ClassData} {Q : ClassData → Shared → Prop} (ho : h.get? a = some o) (hc : o.data = .cls c) (hq : Q c ⟨h, g, d, t, os⟩) :
    wpAny (model prog w) A (classData a) Q E ⟨h, g, d, t, os⟩ := by
  unfold classData
  refine wpAny_bind (wpAny_load' ho ?_)
  rw [hc]
  exact wpAny_pure hq
theorem k_look_own {a : Addr} {o oN : Obj} {c : ClassData} {name : Str} {v : Value} {Q : Option Value → Shared → Prop} (ho : h.get? a = some o) (hc : o.data = .cls c) (hm : c.mro = [.ref a, .type "object"])
    (hN : h.get? c.ns = some oN) (e : nsLook name oN = pure (some v)) (hq : Q (some v) ⟨h, g, d, t, os⟩) : wpAny (model prog w) A (typeLookup (.ref a) name) Q E ⟨h, g, d, t, os⟩ := by
  unfold typeLookup
  refine wpAny_bind (k_mroC ho hc ?_)
  rw [hm, List.forIn_cons]
  refine wpAny_bind (wpAny_bind (wpAny_bind ?_))
  show wpAny _ _ (do nsGet (← classData a).ns name) _ _ _
  refine wpAny_bind (k_classData ho hc (k_nsGet hN e ?_))
  exact wpAny_pure (wpAny_pure (wpAny_pure hq))
theorem k_look_obj {a : Addr} {o oN : Obj} {c : ClassData} {name : Str} {r : Option Value} {Q : Option Value → Shared → Prop} (ho : h.get? a = some o) (hc : o.data = .cls c) (hm : c.mro = [.ref a, .type "object"])
    (hN : h.get? c.ns = some oN) (e : nsLook name oN = pure none) (hb : builtinOwn "object" name = r) (hq : Q r ⟨h, g, d, t, os⟩) : wpAny (model prog w) A (typeLookup (.ref a) name) Q E ⟨h, g, d, t, os⟩ := by
  unfold typeLookup
  refine wpAny_bind (k_mroC ho hc ?_)
  rw [hm, List.forIn_cons]
  refine wpAny_bind (wpAny_bind (wpAny_bind ?_))
  show wpAny _ _ (do nsGet (← classData a).ns name) _ _ _
  refine wpAny_bind (k_classData ho hc (k_nsGet hN e ?_))
  refine wpAny_pure ?_
  show wpAny _ _ (forIn [Value.type "object"] _ _) _ _ _
  rw [List.forIn_cons]
  refine wpAny_bind (wpAny_bind ?_)
  show wpAny _ _ (pure (builtinOwn "object" name)) _ _ _
  refine wpAny_pure ?_
  rw [hb]
  cases r with
  | none => exact wpAny_pure (wpAny_pure (wpAny_pure hq))
  | some v => exact wpAny_pure (wpAny_pure (wpAny_pure hq))
theorem k_refresh {a : Addr} {o oN : Obj} {c : ClassData} {Q : Unit → Shared → Prop} (ho : h.get? a = some o) (hs : (o.slots[4]?).join = some (.builtin "object.__new__")) (hc : o.data = .cls c) (hm : c.mro = [.ref a, .type "object"])
    (hN : h.get? c.ns = some oN) (e : nsLook "__new__" oN = pure none) (hq : Q () ⟨h, g, d, t, os⟩) : wpAny (model prog w) A (Bind.refreshMaker a) Q E ⟨h, g, d, t, os⟩ := by
  unfold Bind.refreshMaker
  refine wpAny_bind (k_slotAt ho hs ?_)
  refine wpAny_bind (k_look_obj ho hc hm hN e (r := some (.builtin "object.__new__")) (by kernel_rfl) ?_)
  exact wpAny_ite_false (by kernel_rfl) (wpAny_pure hq)
end
end Mine
namespace Mine
theorem forIn_same {M : Model} {A : Around} {E : Value → Shared → Prop} {s : Shared} {es : Array DictEntry} {f : DictEntry → PUnit → Sem (ForInStep PUnit)} {Q : PUnit → Shared → Prop}
    (hf : ∀ e ∈ es.toList, wpAny M A (f e ⟨⟩) (fun r s' => r = .yield ⟨⟩ ∧ s' = s) E s) (hq : Q ⟨⟩ s) : wpAny M A (forIn es ⟨⟩ f) Q E s := by
  rw [← Array.forIn_toList]
  generalize es.toList = l at hf
  induction l with
  | nil => rw [List.forIn_nil]; exact wpAny_pure hq
  | cons e r ih =>
    rw [List.forIn_cons]
    refine wpAny_bind (wpAny_mono (hf e (.head _)) (fun x s' hx => ?_) fun _ _ x => x)
    obtain ⟨rfl, rfl⟩ := hx
    exact ih fun e' he' => hf e' (.tail _ he')
theorem k_specialV {M : Model} {A : Around} {E : Value → Shared → Prop} {s : Shared} {v : Value} {T : String} {name : Str} {r : Option Value} {Q : Option Value → Shared → Prop} (hT : typeOf v = pure (.type T)) (e : typeLookup (.type T) name = pure r)
    (hq : Q r s) : wpAny M A (specialOf v name) Q E s := wpAny_specialOf_val hT e hq
end Mine
namespace Mine
theorem k_dictEntries {M : Model} {A : Around} {E : Value → Shared → Prop} {h : Heap} {g : Array GenState} {d : Drawn} {t : Nat} {os : OsState} {a : Addr} {o : Obj} {es : Array DictEntry} {n : Nat} {Q : Array DictEntry → Shared → Prop}
    (ho : h.get? a = some o) (hd : o.data = .dict es n) (hq : Q es ⟨h, g, d, t, os⟩) : wpAny M A (dictEntries a) Q E ⟨h, g, d, t, os⟩ := by
  unfold dictEntries
  refine wpAny_bind (wpAny_loadPart' ho ?_)
  rw [hd]
  exact wpAny_pure hq
end Mine
namespace Mine
theorem Md.to {h₀ h : Heap} {l l' : List (Addr × Obj)} (D : Md h₀ h l) (e : l = l') : Md h₀ h l' := e ▸ D
noncomputable abbrev kCls (N : Addr) (mro : List Value) (hd : Bool) (sn : List Str) (sl : Array (Option Value)) : Obj :=
  { cls := .type "type", data := .cls { name := "K", bases := [.type "object"], mro := mro, ns := N, qualname := "cmp_to_key.<locals>.K", hasDict := hd, slotNames := sn }, slots := sl }
noncomputable abbrev nsEnts2 (hh : Str → Int) (tt : Str → Nat) (t1 t3 : Nat) (S f0 f1 f2 f3 f4 f5 st : Addr) (more : List DictEntry) : Array DictEntry :=
  ([ent hh tt "__module__" (.str "cpy313.functools" t1), ent hh tt "__firstlineno__" (.int 4 t3),
    ent hh tt "__slots__" (.ref S), ent hh tt "__init__" (.ref f0), ent hh tt "__lt__" (.ref f1), ent hh tt "__gt__" (.ref f2), ent hh tt "__eq__" (.ref f3), ent hh tt "__le__" (.ref f4), ent hh tt "__ge__" (.ref f5),
    ent hh tt "__hash__" .none, ent hh tt "__static_attributes__" (.ref st)] ++ more).toArray
noncomputable abbrev dO (es : Array DictEntry) (n : Nat) : Obj := { cls := .type "dict", data := .dict es n }
end Mine
end
section
open PySem PySem.W PyProof.Rows PySem.W.X Mine
set_option Elab.async false
set_option maxRecDepth 100000
set_option maxHeartbeats 4000000
set_option linter.unusedVariables false
namespace Mine
local macro_rules | `(tactic| x_close) => `(tactic| (first | exact ⟨_, _, _, rfl, rfl, md_of_mem (by assumption)⟩ | exact ⟨_, _, rfl, md_of_mem (by assumption)⟩ | exact ⟨_, _, rfl, Md.start _⟩))
theorem drop_self (a : Addr) : List.drop 1 (List.dropWhile (fun x => x != Value.ref a) [Value.ref a, Value.type "object"]) = [Value.type "object"] := by
  have h1 : (Value.ref a != Value.ref a) = false := bne_self_eq_false _
  simp only [List.dropWhile, h1, List.drop]
theorem forIn_eq {α β : Type} {M : Model} {A : Around} {E : Value → Shared → Prop} {s : Shared} {l l' : List α} {b : β} {f : α → β → Sem (ForInStep β)} {Q : β → Shared → Prop} (e : l = l') (h : wpAny M A (forIn l' b f) Q E s) : wpAny M A (forIn l b f) Q E s := e ▸ h
section
variable {prog : Program} {w : World} {h₀ : Heap} {g : Array GenState} {dr : Drawn} {t : Nat} {os : OsState} {C N T sp : Addr} {t1 t2 : Nat}
theorem superC 
  (hC : h₀.get? C = some (kCls N [.ref C, .type "object"] false ["obj"] #[some (.ref T), none, some (.str "K" t1), some (.str "cmp_to_key.<locals>.K" t2), some (.builtin "object.__new__"), some (.bool false)])) :
  wpAny (model prog w) (An 800 8000) (call (.type "super") [.ref C, .ref C]) (fun v s' => ∃ p h' t', v = .ref p ∧ s' = ⟨h', g, dr, t', os⟩ ∧ Md h₀ h' [(p, { cls := .type "super", data := .fields #[.ref C, .ref C, .ref C] })]) (fun _ _ => False) ⟨h₀, g, dr, t, os⟩ := by
  dsimp only [kCls] at hC
  x_run
theorem cmdGet
  (hC : h₀.get? C = some (kCls N [.ref C, .type "object"] false ["obj"] #[some (.ref T), none, some (.str "K" t1), some (.str "cmp_to_key.<locals>.K" t2), some (.builtin "object.__new__"), some (.bool false)])) :
  wpAny (model prog w) (An 800 8000) (call (.builtin "classmethod_descriptor.__get__") [.builtin "object.__init_subclass__", .none, .ref C]) (fun v s' => ∃ p h' t', v = .ref p ∧ s' = ⟨h', g, dr, t', os⟩ ∧ Md h₀ h' [(p, { cls := .type "builtin_function_or_method", data := .fields #[.builtin "object.__init_subclass__", .ref C] })]) (fun _ _ => False) ⟨h₀, g, dr, t, os⟩ := by
  dsimp only [kCls] at hC
  x_run
theorem superGet {dd u tk : Nat} {Q : Value → Shared → Prop} {E : Value → Shared → Prop} (hdd : dd ≤ 700) (hu : u ≤ 7000)
  (hC : h₀.get? C = some (kCls N [.ref C, .type "object"] false ["obj"] #[some (.ref T), none, some (.str "K" t1), some (.str "cmp_to_key.<locals>.K" t2), some (.builtin "object.__new__"), some (.bool false)]))
  (hs : h₀.get? cStatics = some { cls := .none, data := .dict #[] })
  (hsp : h₀.get? sp = some { cls := .type "super", data := .fields #[.ref C, .ref C, .ref C] })
  (hq : ∀ p h' t', Md h₀ h' [(p, { cls := .type "builtin_function_or_method", data := .fields #[.builtin "object.__init_subclass__", .ref C] })] → Q (.ref p) ⟨h', g, dr, t', os⟩) :
  wpAny (model prog w) (An dd u) (call (.builtin "super.__getattribute__") [.ref sp, .str "__init_subclass__" tk]) Q E ⟨h₀, g, dr, t, os⟩ := by
  have k1 : builtinKind "super.__getattribute__" = some .slot := by kernel_rfl
  have k2 : splitId "super.__getattribute__" = some ("super", "__getattribute__") := by kernel_rfl
  have k3 : isSubtype (.type "super") (.type "super") = pure true := by kernel_rfl
  refine wpAny_call (codeAny_call_builtin (b := Builtin.«super.__getattribute__») (by decide +kernel) (entryFor_of_tree (by kernel_rfl)) ?_)
  unfold checkBuiltinCall
  simp only [k1, k2]
  refine wpAny_bind (k_isInst hsp rfl k3 ?_)
  refine wpAny_of_eq (a := ()) (by kernel_rfl) ?_
  unfold Builtin.«super.__getattribute__»
  repeat (first
    | ((with_reducible show wpAny _ _ (field _ _) _ _ _); refine wpAny_field hsp rfl rfl ?_)
    | ((with_reducible show wpAny _ _ (notOfAnOpaqueClass _ _ _) _ _ _); refine halt ?_)
    | wp_step
    | (with_reducible refine wpAny_ite_false (by kernel_rfl) ?_) | (with_reducible refine wpAny_ite_true (by kernel_rfl) ?_))
  refine ⟨?_⟩
  unfold notOfAnOpaqueClass
  refine wpAny_bind ?_
  show wpAny _ _ (opaqueClassAbove (.ref C)) _ _ _
  unfold opaqueClassAbove
  repeat (first
    | ((with_reducible show wpAny _ _ (nsGet _ _) _ _ _); refine k_nsGet (r := none) hs (by kernel_rfl) ?_)
    | ((with_reducible show wpAny _ _ (forIn _ _ _) _ _ _); refine halt ?_)
    | wp_step
    | (with_reducible refine wpAny_ite_false (by kernel_rfl) ?_) | (with_reducible refine wpAny_ite_true (by kernel_rfl) ?_))
  refine ⟨?_⟩
  refine forIn_eq (drop_self C) ?_
  rw [List.forIn_cons]
  have k4 : typeOf (.builtin "object.__init_subclass__") = pure (.type "classmethod_descriptor") := by kernel_rfl
  have k5 : typeLookup (.type "classmethod_descriptor") "__get__" = pure (some (.builtin "classmethod_descriptor.__get__")) := by rw [typeLookup_type, builtinLookup_eq_fast]; kernel_rfl
  refine wpAny_bind (wpAny_bind (wpAny_of_eq (a := some (.builtin "object.__init_subclass__")) (by kernel_rfl) ?_))
  refine wpAny_bind (wpAny_of_eq k4 (wpAny_bind (wpAny_of_eq k5 ?_)))
  have k6 : (Value.ref C == Value.ref C) = true := beq_self_eq_true _
  refine wpAny_bind (wpAny_holding ?_)
  show wpAny _ _ (call (.builtin "classmethod_descriptor.__get__") [.builtin "object.__init_subclass__", if (Value.ref C == Value.ref C) = true then .none else .ref C, .ref C]) _ _ _
  rw [k6, if_pos rfl]
  refine wpAny_mono (wpE (wp_An (d := 800) (u := 8000) rfl (by show dd ≤ 800; omega) (by show u + 1 ≤ 8000; omega) (cmdGet hC))) (fun v s' hx => ?_) fun _ _ x => x
  obtain ⟨p, h', t', rfl, rfl, D⟩ := hx
  exact wpAny_bind (wpAny_pure (wpAny_pure (wpAny_pure (wpAny_pure (hq p h' t' D)))))
theorem initSub {bm : Addr}
  (hC : h₀.get? C = some (kCls N [.ref C, .type "object"] false ["obj"] #[some (.ref T), none, some (.str "K" t1), some (.str "cmp_to_key.<locals>.K" t2), some (.builtin "object.__new__"), some (.bool false)]))
  (hb : h₀.get? bm = some { cls := .type "builtin_function_or_method", data := .fields #[.builtin "object.__init_subclass__", .ref C] }) :
  wpAny (model prog w) (An 800 8000) (call (.ref bm) []) (fun v s' => ∃ h' t', s' = ⟨h', g, dr, t', os⟩ ∧ Md h₀ h' []) (fun _ _ => False) ⟨h₀, g, dr, t, os⟩ := by
  dsimp only [kCls] at hC
  x_run
theorem superAttr {dd u : Nat} {Q : Value → Shared → Prop} {E : Value → Shared → Prop} (hdd : dd ≤ 700) (hu : u ≤ 6900)
  (hC : h₀.get? C = some (kCls N [.ref C, .type "object"] false ["obj"] #[some (.ref T), none, some (.str "K" t1), some (.str "cmp_to_key.<locals>.K" t2), some (.builtin "object.__new__"), some (.bool false)]))
  (hs : h₀.get? cStatics = some { cls := .none, data := .dict #[] })
  (hsp : h₀.get? sp = some { cls := .type "super", data := .fields #[.ref C, .ref C, .ref C] })
  (hq : ∀ p h' t', Md h₀ h' [(p, { cls := .type "builtin_function_or_method", data := .fields #[.builtin "object.__init_subclass__", .ref C] })] → Q (.ref p) ⟨h', g, dr, t', os⟩) :
  wpAny (model prog w) (An dd u) (getAttr (.ref sp) "__init_subclass__") Q E ⟨h₀, g, dr, t, os⟩ := by
  have g1 : typeLookup (.type "super") "__getattribute__" = pure (some (.builtin "super.__getattribute__")) := by rw [typeLookup_type, builtinLookup_eq_fast]; kernel_rfl
  have g2 : typeLookup (.type "super") "__getattr__" = pure none := by rw [typeLookup_type, builtinLookup_eq_fast]; kernel_rfl
  have g3 : typeOf (.builtin "super.__getattribute__") = pure (.type "wrapper_descriptor") := by kernel_rfl
  unfold getAttr
  refine wpAny_bind (wpAny_mkText ?_)
  unfold getAttrBy
  refine wpAny_holding (wpAny_bind (wpAny_bind (wpAny_loadPart' hsp (wpAny_pure ?_))))
  refine wpAny_bind (wpAny_of_eq g1 ?_)
  refine wpAny_ite_false (by kernel_rfl) ?_
  unfold getAttrByItsOwn
  refine wpAny_bind (wpAny_of_eq (a := none) (by kernel_rfl) ?_)
  refine wpAny_bind (wpAny_attempt (wpAny_holding ?_))
  unfold callGetattribute
  refine wpAny_ite_false (by kernel_rfl) ?_
  unfold boundAndCalled bindSpecial
  refine wpAny_bind (wpAny_bind (wpAny_of_eq g3 ?_))
  refine wpAny_ite_true (by kernel_rfl) (wpAny_pure ?_)
  refine superGet (by omega) (by omega) hC hs hsp fun p h' t' D => ?_
  show wpAny _ _ (handedOut (.ref p)) _ _ _
  exact wpAny_pure (hq p h' t' D)
end
end Mine
end
section
open PySem PySem.W PyProof.Rows PySem.W.X Mine
set_option Elab.async false
set_option maxRecDepth 100000
set_option maxHeartbeats 4000000
set_option linter.unusedVariables false
namespace Mine
theorem tn {prog : Program} {w : World} {dd u : Nat} {E : Value → Shared → Prop} {h₀ : Heap} {g : Array GenState} {d : Drawn} {t : Nat} {os : OsState} {Q : PySem.Fin → Shared → Prop}
  {T D S f0 f1 f2 f3 f4 f5 st : Addr} {n tk t1 t2 t3 t4 : Nat} {hh : Str → Int} {tt : Str → Nat}
  (hT : h₀.get? T = some { cls := .type "tuple", data := .seq #[.type "object"] 0 })
  (hS : h₀.get? S = some { cls := .type "list", data := .seq #[.str "obj" t4] 0 })
  (hD : h₀.get? D = some { cls := .type "dict", data := .dict (nsEnts hh tt t1 t2 t3 S f0 f1 f2 f3 f4 f5 st) n })
  (hDm : (D == sysModules) = false) {of0 of1 of2 of3 of4 of5 ost : Obj}
  (hf0 : h₀.get? f0 = some of0) (hc0 : of0.cls = .type "function") (hf1 : h₀.get? f1 = some of1) (hc1 : of1.cls = .type "function") (hf2 : h₀.get? f2 = some of2) (hc2 : of2.cls = .type "function")
  (hf3 : h₀.get? f3 = some of3) (hc3 : of3.cls = .type "function") (hf4 : h₀.get? f4 = some of4) (hc4 : of4.cls = .type "function") (hf5 : h₀.get? f5 = some of5) (hc5 : of5.cls = .type "function")
  (hst : h₀.get? st = some ost) (hcst : ost.cls = .type "tuple") (hdd : dd ≤ 600) (hu : u ≤ 6000)
  (hsta : h₀.get? cStatics = some { cls := .none, data := .dict #[] })
  (hq : ∀ C N md h' t', Md h₀ h' [(md, { cls := .type "member_descriptor", data := .fields #[.str "obj" t, .ref C, .builtin "proto.slot", .builtin "proto.slot#set", .int 0 0] }),
      (C, kCls N [.ref C, .type "object"] false ["obj"] #[some (.ref T), none, some (.str "K" tk), some (.str "cmp_to_key.<locals>.K" t2), some (.builtin "object.__new__"), some (.bool false)]),
      (N, dO (nsEnts2 hh tt t1 t3 S f0 f1 f2 f3 f4 f5 st [⟨reduceHash (w.params.strHash (Str.ofString "obj").cps), .str "obj" (t + 1), .ref md⟩, ⟨reduceHash (w.params.strHash (Str.ofString "__doc__").cps), .str "__doc__" (t + 1 + 1), .none⟩]) 3)] →
    Q (.done (.ret (.ref C))) ⟨h', g, d, t', os⟩) :
  wpAny (model prog w) (An dd u) (Builtin.«type.__new__» ⟨[.type "type", .str "K" tk, .ref T, .ref D], []⟩) Q E ⟨h₀, g, d, t, os⟩ := by
  have c1 : isSubtype (.type "tuple") (.type "tuple") = pure true := by kernel_rfl
  have c2 : isSubtype (.type "dict") (.type "dict") = pure true := by kernel_rfl
  have c3 : typeOf (.type "object") = pure (.type "type") := by kernel_rfl
  have c4 : isSubtype (.type "type") (.type "type") = pure true := by kernel_rfl
  have c5 : Builtin.notOverATurnedClass (if ((some #[Value.type "object"]).getD #[]).toList.isEmpty = true then [Value.type "object"] else ((some #[Value.type "object"]).getD #[]).toList) = pure () := by kernel_rfl
  have c6 : Builtin.extendedBase (if ((some #[Value.type "object"]).getD #[]).toList.isEmpty = true then [Value.type "object"] else ((some #[Value.type "object"]).getD #[]).toList) = pure (.type "object") := by kernel_rfl
  have c7 : typeLookup (.type "dict") "__iter__" = pure (some (.builtin "dict.__iter__")) := by rw [typeLookup_type, builtinLookup_eq_fast]; kernel_rfl
  have c8 : Builtin.mroHook? (.type "type") = pure none := by kernel_rfl
  have c9 : Builtin.linearize (if ((some #[Value.type "object"]).getD #[]).toList.isEmpty = true then [Value.type "object"] else ((some #[Value.type "object"]).getD #[]).toList) mroOf = pure [.type "object"] := by kernel_rfl
  have c10 : Bind.madeBy (.type "object") = pure (some "object.__new__") := by kernel_rfl
  have c11 : Builtin.Slots.givesWeak (.type "object") = pure false := by kernel_rfl
  have D0 := Md.start h₀
  unfold Builtin.«type.__new__»
  repeat (first | with_reducible refine k_isInst (by assumption) rfl (by assumption) ?_ | with_reducible refine k_special (by assumption) rfl (by assumption) ?_ | ((with_reducible show wpAny _ _ (Builtin.Slots.read _ _ _) _ _ _); refine halt ?_) | wp_step)
  refine ⟨?_⟩
  refine slotsRead (bases := _) ?hb hS ?hq
  case hb => kernel_rfl
  intro h1 k1
  have D1 : Md h₀ h1 [] := D0.keeps k1
  clear D0
  have q1 : nsLook (Str.ofString "__qualname__") (dO (nsEnts hh tt t1 t2 t3 S f0 f1 f2 f3 f4 f5 st) 0) = pure (some (.str "cmp_to_key.<locals>.K" t2)) := by kernel_rfl
  (repeat (first | ((with_reducible show wpAny _ _ (Sem.tryCatch _ _) _ _ _); refine halt ?_) | ((with_reducible show wpAny _ _ (setSlotAt _ _ _) _ _ _); refine halt ?_) | ((with_reducible show wpAny _ _ (nsDel _ _) _ _ _); refine halt ?_) | ((with_reducible show wpAny _ _ (updateCls _ _) _ _ _); refine halt ?_) | ((with_reducible show wpAny _ _ (nsSet _ _ _) _ _ _); refine halt ?_) | ((with_reducible show wpAny _ _ (alloc _) _ _ _); refine halt ?_) | ((with_reducible show wpAny _ _ (Bind.refreshMaker _) _ _ _); refine halt ?_) | ((with_reducible show wpAny _ _ (Builtin.Slots.install _ _ _ _) _ _ _); refine halt ?_) | ((with_reducible show wpAny _ _ (nsSetByValue _ _ _) _ _ _); refine halt ?_) | ((with_reducible show wpAny _ _ (nsGet _ (Str.ofString "__qualname__")) _ _ _); refine k_nsGet (Md.get (by assumption) (by (repeat (first | exact List.Mem.head _ | apply List.Mem.tail)))) (by with_reducible assumption) ?_) | ((with_reducible show wpAny _ _ (nsGet _ (Str.ofString "__new__")) _ _ _); refine k_nsGet (r := none) (Md.get (by assumption) (by (repeat (first | exact List.Mem.head _ | apply List.Mem.tail)))) (by kernel_rfl) ?_) | ((with_reducible show wpAny _ _ (nsGet _ (Str.ofString "__init_subclass__")) _ _ _); refine k_nsGet (r := none) (Md.get (by assumption) (by (repeat (first | exact List.Mem.head _ | apply List.Mem.tail)))) (by kernel_rfl) ?_) | ((with_reducible show wpAny _ _ (nsGet _ (Str.ofString "__class_getitem__")) _ _ _); refine k_nsGet (r := none) (Md.get (by assumption) (by (repeat (first | exact List.Mem.head _ | apply List.Mem.tail)))) (by kernel_rfl) ?_) | ((with_reducible show wpAny _ _ (nsGet _ (Str.ofString "__classcell__")) _ _ _); refine k_nsGet (r := none) (Md.get (by assumption) (by (repeat (first | exact List.Mem.head _ | apply List.Mem.tail)))) (by kernel_rfl) ?_) | ((with_reducible show wpAny _ _ (nsGet _ (Str.ofString "__classdictcell__")) _ _ _); refine k_nsGet (r := none) (Md.get (by assumption) (by (repeat (first | exact List.Mem.head _ | apply List.Mem.tail)))) (by kernel_rfl) ?_) | ((with_reducible show wpAny _ _ (nsGet _ (Str.ofString "__doc__")) _ _ _); refine k_nsGet (r := none) (Md.get (by assumption) (by (repeat (first | exact List.Mem.head _ | apply List.Mem.tail)))) (by kernel_rfl) ?_) | ((with_reducible show wpAny _ _ (nsGet _ (Str.ofString "obj")) _ _ _); refine k_nsGet (r := none) (Md.get (by assumption) (by (repeat (first | exact List.Mem.head _ | apply List.Mem.tail)))) (by kernel_rfl) ?_) | ((with_reducible show wpAny _ _ (nsGet _ (Str.ofString "__eq__")) _ _ _); refine k_nsGet (Md.get (by assumption) (by (repeat (first | exact List.Mem.head _ | apply List.Mem.tail)))) (by with_reducible assumption) ?_) | ((with_reducible show wpAny _ _ (nsGet _ (Str.ofString "__hash__")) _ _ _); refine k_nsGet (Md.get (by assumption) (by (repeat (first | exact List.Mem.head _ | apply List.Mem.tail)))) (by with_reducible assumption) ?_) | (rw [fil_self]) | wp_step | (with_reducible refine wpAny_ite_false (by kernel_rfl) ?_) | (with_reducible refine wpAny_ite_true (by kernel_rfl) ?_)))
  refine ⟨?_⟩
  refine m_alloc D1 rfl fun N h2 D2 => ?_
  (repeat (first | ((with_reducible show wpAny _ _ (Sem.tryCatch _ _) _ _ _); refine halt ?_) | ((with_reducible show wpAny _ _ (setSlotAt _ _ _) _ _ _); refine halt ?_) | ((with_reducible show wpAny _ _ (nsDel _ _) _ _ _); refine halt ?_) | ((with_reducible show wpAny _ _ (updateCls _ _) _ _ _); refine halt ?_) | ((with_reducible show wpAny _ _ (nsSet _ _ _) _ _ _); refine halt ?_) | ((with_reducible show wpAny _ _ (alloc _) _ _ _); refine halt ?_) | ((with_reducible show wpAny _ _ (Bind.refreshMaker _) _ _ _); refine halt ?_) | ((with_reducible show wpAny _ _ (Builtin.Slots.install _ _ _ _) _ _ _); refine halt ?_) | ((with_reducible show wpAny _ _ (nsSetByValue _ _ _) _ _ _); refine halt ?_) | ((with_reducible show wpAny _ _ (nsGet _ (Str.ofString "__qualname__")) _ _ _); refine k_nsGet (Md.get (by assumption) (by (repeat (first | exact List.Mem.head _ | apply List.Mem.tail)))) (by with_reducible assumption) ?_) | ((with_reducible show wpAny _ _ (nsGet _ (Str.ofString "__new__")) _ _ _); refine k_nsGet (r := none) (Md.get (by assumption) (by (repeat (first | exact List.Mem.head _ | apply List.Mem.tail)))) (by kernel_rfl) ?_) | ((with_reducible show wpAny _ _ (nsGet _ (Str.ofString "__init_subclass__")) _ _ _); refine k_nsGet (r := none) (Md.get (by assumption) (by (repeat (first | exact List.Mem.head _ | apply List.Mem.tail)))) (by kernel_rfl) ?_) | ((with_reducible show wpAny _ _ (nsGet _ (Str.ofString "__class_getitem__")) _ _ _); refine k_nsGet (r := none) (Md.get (by assumption) (by (repeat (first | exact List.Mem.head _ | apply List.Mem.tail)))) (by kernel_rfl) ?_) | ((with_reducible show wpAny _ _ (nsGet _ (Str.ofString "__classcell__")) _ _ _); refine k_nsGet (r := none) (Md.get (by assumption) (by (repeat (first | exact List.Mem.head _ | apply List.Mem.tail)))) (by kernel_rfl) ?_) | ((with_reducible show wpAny _ _ (nsGet _ (Str.ofString "__classdictcell__")) _ _ _); refine k_nsGet (r := none) (Md.get (by assumption) (by (repeat (first | exact List.Mem.head _ | apply List.Mem.tail)))) (by kernel_rfl) ?_) | ((with_reducible show wpAny _ _ (nsGet _ (Str.ofString "__doc__")) _ _ _); refine k_nsGet (r := none) (Md.get (by assumption) (by (repeat (first | exact List.Mem.head _ | apply List.Mem.tail)))) (by kernel_rfl) ?_) | ((with_reducible show wpAny _ _ (nsGet _ (Str.ofString "obj")) _ _ _); refine k_nsGet (r := none) (Md.get (by assumption) (by (repeat (first | exact List.Mem.head _ | apply List.Mem.tail)))) (by kernel_rfl) ?_) | ((with_reducible show wpAny _ _ (nsGet _ (Str.ofString "__eq__")) _ _ _); refine k_nsGet (Md.get (by assumption) (by (repeat (first | exact List.Mem.head _ | apply List.Mem.tail)))) (by with_reducible assumption) ?_) | ((with_reducible show wpAny _ _ (nsGet _ (Str.ofString "__hash__")) _ _ _); refine k_nsGet (Md.get (by assumption) (by (repeat (first | exact List.Mem.head _ | apply List.Mem.tail)))) (by with_reducible assumption) ?_) | (rw [fil_self]) | wp_step | (with_reducible refine wpAny_ite_false (by kernel_rfl) ?_) | (with_reducible refine wpAny_ite_true (by kernel_rfl) ?_)))
  refine ⟨?_⟩
  refine m_alloc D2 rfl fun C h3 D3 => ?_
  replace D3 := Md.to (l' := [(C, kCls N [] true [] #[]), (N, dO (nsEnts hh tt t1 t2 t3 S f0 f1 f2 f3 f4 f5 st) 0)]) D3 (by kernel_rfl)
  clear D1 D2
  (repeat (first | ((with_reducible show wpAny _ _ (Sem.tryCatch _ _) _ _ _); refine halt ?_) | ((with_reducible show wpAny _ _ (setSlotAt _ _ _) _ _ _); refine halt ?_) | ((with_reducible show wpAny _ _ (nsDel _ _) _ _ _); refine halt ?_) | ((with_reducible show wpAny _ _ (updateCls _ _) _ _ _); refine halt ?_) | ((with_reducible show wpAny _ _ (nsSet _ _ _) _ _ _); refine halt ?_) | ((with_reducible show wpAny _ _ (alloc _) _ _ _); refine halt ?_) | ((with_reducible show wpAny _ _ (Bind.refreshMaker _) _ _ _); refine halt ?_) | ((with_reducible show wpAny _ _ (Builtin.Slots.install _ _ _ _) _ _ _); refine halt ?_) | ((with_reducible show wpAny _ _ (nsSetByValue _ _ _) _ _ _); refine halt ?_) | ((with_reducible show wpAny _ _ (nsGet _ (Str.ofString "__qualname__")) _ _ _); refine k_nsGet (Md.get (by assumption) (by (repeat (first | exact List.Mem.head _ | apply List.Mem.tail)))) (by with_reducible assumption) ?_) | ((with_reducible show wpAny _ _ (nsGet _ (Str.ofString "__new__")) _ _ _); refine k_nsGet (r := none) (Md.get (by assumption) (by (repeat (first | exact List.Mem.head _ | apply List.Mem.tail)))) (by kernel_rfl) ?_) | ((with_reducible show wpAny _ _ (nsGet _ (Str.ofString "__init_subclass__")) _ _ _); refine k_nsGet (r := none) (Md.get (by assumption) (by (repeat (first | exact List.Mem.head _ | apply List.Mem.tail)))) (by kernel_rfl) ?_) | ((with_reducible show wpAny _ _ (nsGet _ (Str.ofString "__class_getitem__")) _ _ _); refine k_nsGet (r := none) (Md.get (by assumption) (by (repeat (first | exact List.Mem.head _ | apply List.Mem.tail)))) (by kernel_rfl) ?_) | ((with_reducible show wpAny _ _ (nsGet _ (Str.ofString "__classcell__")) _ _ _); refine k_nsGet (r := none) (Md.get (by assumption) (by (repeat (first | exact List.Mem.head _ | apply List.Mem.tail)))) (by kernel_rfl) ?_) | ((with_reducible show wpAny _ _ (nsGet _ (Str.ofString "__classdictcell__")) _ _ _); refine k_nsGet (r := none) (Md.get (by assumption) (by (repeat (first | exact List.Mem.head _ | apply List.Mem.tail)))) (by kernel_rfl) ?_) | ((with_reducible show wpAny _ _ (nsGet _ (Str.ofString "__doc__")) _ _ _); refine k_nsGet (r := none) (Md.get (by assumption) (by (repeat (first | exact List.Mem.head _ | apply List.Mem.tail)))) (by kernel_rfl) ?_) | ((with_reducible show wpAny _ _ (nsGet _ (Str.ofString "obj")) _ _ _); refine k_nsGet (r := none) (Md.get (by assumption) (by (repeat (first | exact List.Mem.head _ | apply List.Mem.tail)))) (by kernel_rfl) ?_) | ((with_reducible show wpAny _ _ (nsGet _ (Str.ofString "__eq__")) _ _ _); refine k_nsGet (Md.get (by assumption) (by (repeat (first | exact List.Mem.head _ | apply List.Mem.tail)))) (by with_reducible assumption) ?_) | ((with_reducible show wpAny _ _ (nsGet _ (Str.ofString "__hash__")) _ _ _); refine k_nsGet (Md.get (by assumption) (by (repeat (first | exact List.Mem.head _ | apply List.Mem.tail)))) (by with_reducible assumption) ?_) | (rw [fil_self]) | wp_step | (with_reducible refine wpAny_ite_false (by kernel_rfl) ?_) | (with_reducible refine wpAny_ite_true (by kernel_rfl) ?_)))
  refine ⟨?_⟩
  refine k_setSlot D3 0 rfl (by decide) (o' := kCls N [] true [] #[some (.ref T)]) (by kernel_rfl) rfl fun h4 D4 => ?_
  clear D3
  dsimp only [List.set] at D4
  (repeat (first | ((with_reducible show wpAny _ _ (Sem.tryCatch _ _) _ _ _); refine halt ?_) | ((with_reducible show wpAny _ _ (setSlotAt _ _ _) _ _ _); refine halt ?_) | ((with_reducible show wpAny _ _ (nsDel _ _) _ _ _); refine halt ?_) | ((with_reducible show wpAny _ _ (updateCls _ _) _ _ _); refine halt ?_) | ((with_reducible show wpAny _ _ (nsSet _ _ _) _ _ _); refine halt ?_) | ((with_reducible show wpAny _ _ (alloc _) _ _ _); refine halt ?_) | ((with_reducible show wpAny _ _ (Bind.refreshMaker _) _ _ _); refine halt ?_) | ((with_reducible show wpAny _ _ (Builtin.Slots.install _ _ _ _) _ _ _); refine halt ?_) | ((with_reducible show wpAny _ _ (nsSetByValue _ _ _) _ _ _); refine halt ?_) | ((with_reducible show wpAny _ _ (nsGet _ (Str.ofString "__qualname__")) _ _ _); refine k_nsGet (Md.get (by assumption) (by (repeat (first | exact List.Mem.head _ | apply List.Mem.tail)))) (by with_reducible assumption) ?_) | ((with_reducible show wpAny _ _ (nsGet _ (Str.ofString "__new__")) _ _ _); refine k_nsGet (r := none) (Md.get (by assumption) (by (repeat (first | exact List.Mem.head _ | apply List.Mem.tail)))) (by kernel_rfl) ?_) | ((with_reducible show wpAny _ _ (nsGet _ (Str.ofString "__init_subclass__")) _ _ _); refine k_nsGet (r := none) (Md.get (by assumption) (by (repeat (first | exact List.Mem.head _ | apply List.Mem.tail)))) (by kernel_rfl) ?_) | ((with_reducible show wpAny _ _ (nsGet _ (Str.ofString "__class_getitem__")) _ _ _); refine k_nsGet (r := none) (Md.get (by assumption) (by (repeat (first | exact List.Mem.head _ | apply List.Mem.tail)))) (by kernel_rfl) ?_) | ((with_reducible show wpAny _ _ (nsGet _ (Str.ofString "__classcell__")) _ _ _); refine k_nsGet (r := none) (Md.get (by assumption) (by (repeat (first | exact List.Mem.head _ | apply List.Mem.tail)))) (by kernel_rfl) ?_) | ((with_reducible show wpAny _ _ (nsGet _ (Str.ofString "__classdictcell__")) _ _ _); refine k_nsGet (r := none) (Md.get (by assumption) (by (repeat (first | exact List.Mem.head _ | apply List.Mem.tail)))) (by kernel_rfl) ?_) | ((with_reducible show wpAny _ _ (nsGet _ (Str.ofString "__doc__")) _ _ _); refine k_nsGet (r := none) (Md.get (by assumption) (by (repeat (first | exact List.Mem.head _ | apply List.Mem.tail)))) (by kernel_rfl) ?_) | ((with_reducible show wpAny _ _ (nsGet _ (Str.ofString "obj")) _ _ _); refine k_nsGet (r := none) (Md.get (by assumption) (by (repeat (first | exact List.Mem.head _ | apply List.Mem.tail)))) (by kernel_rfl) ?_) | ((with_reducible show wpAny _ _ (nsGet _ (Str.ofString "__eq__")) _ _ _); refine k_nsGet (Md.get (by assumption) (by (repeat (first | exact List.Mem.head _ | apply List.Mem.tail)))) (by with_reducible assumption) ?_) | ((with_reducible show wpAny _ _ (nsGet _ (Str.ofString "__hash__")) _ _ _); refine k_nsGet (Md.get (by assumption) (by (repeat (first | exact List.Mem.head _ | apply List.Mem.tail)))) (by with_reducible assumption) ?_) | (rw [fil_self]) | wp_step | (with_reducible refine wpAny_ite_false (by kernel_rfl) ?_) | (with_reducible refine wpAny_ite_true (by kernel_rfl) ?_)))
  refine ⟨?_⟩
  refine k_setSlot D4 0 rfl (by decide) (o' := kCls N [] true [] #[some (.ref T), none, some (.str "K" tk)]) (by kernel_rfl) rfl fun h5 D5 => ?_
  clear D4
  dsimp only [List.set] at D5
  (repeat (first | ((with_reducible show wpAny _ _ (Sem.tryCatch _ _) _ _ _); refine halt ?_) | ((with_reducible show wpAny _ _ (setSlotAt _ _ _) _ _ _); refine halt ?_) | ((with_reducible show wpAny _ _ (nsDel _ _) _ _ _); refine halt ?_) | ((with_reducible show wpAny _ _ (updateCls _ _) _ _ _); refine halt ?_) | ((with_reducible show wpAny _ _ (nsSet _ _ _) _ _ _); refine halt ?_) | ((with_reducible show wpAny _ _ (alloc _) _ _ _); refine halt ?_) | ((with_reducible show wpAny _ _ (Bind.refreshMaker _) _ _ _); refine halt ?_) | ((with_reducible show wpAny _ _ (Builtin.Slots.install _ _ _ _) _ _ _); refine halt ?_) | ((with_reducible show wpAny _ _ (nsSetByValue _ _ _) _ _ _); refine halt ?_) | ((with_reducible show wpAny _ _ (nsGet _ (Str.ofString "__qualname__")) _ _ _); refine k_nsGet (Md.get (by assumption) (by (repeat (first | exact List.Mem.head _ | apply List.Mem.tail)))) (by with_reducible assumption) ?_) | ((with_reducible show wpAny _ _ (nsGet _ (Str.ofString "__new__")) _ _ _); refine k_nsGet (r := none) (Md.get (by assumption) (by (repeat (first | exact List.Mem.head _ | apply List.Mem.tail)))) (by kernel_rfl) ?_) | ((with_reducible show wpAny _ _ (nsGet _ (Str.ofString "__init_subclass__")) _ _ _); refine k_nsGet (r := none) (Md.get (by assumption) (by (repeat (first | exact List.Mem.head _ | apply List.Mem.tail)))) (by kernel_rfl) ?_) | ((with_reducible show wpAny _ _ (nsGet _ (Str.ofString "__class_getitem__")) _ _ _); refine k_nsGet (r := none) (Md.get (by assumption) (by (repeat (first | exact List.Mem.head _ | apply List.Mem.tail)))) (by kernel_rfl) ?_) | ((with_reducible show wpAny _ _ (nsGet _ (Str.ofString "__classcell__")) _ _ _); refine k_nsGet (r := none) (Md.get (by assumption) (by (repeat (first | exact List.Mem.head _ | apply List.Mem.tail)))) (by kernel_rfl) ?_) | ((with_reducible show wpAny _ _ (nsGet _ (Str.ofString "__classdictcell__")) _ _ _); refine k_nsGet (r := none) (Md.get (by assumption) (by (repeat (first | exact List.Mem.head _ | apply List.Mem.tail)))) (by kernel_rfl) ?_) | ((with_reducible show wpAny _ _ (nsGet _ (Str.ofString "__doc__")) _ _ _); refine k_nsGet (r := none) (Md.get (by assumption) (by (repeat (first | exact List.Mem.head _ | apply List.Mem.tail)))) (by kernel_rfl) ?_) | ((with_reducible show wpAny _ _ (nsGet _ (Str.ofString "obj")) _ _ _); refine k_nsGet (r := none) (Md.get (by assumption) (by (repeat (first | exact List.Mem.head _ | apply List.Mem.tail)))) (by kernel_rfl) ?_) | ((with_reducible show wpAny _ _ (nsGet _ (Str.ofString "__eq__")) _ _ _); refine k_nsGet (Md.get (by assumption) (by (repeat (first | exact List.Mem.head _ | apply List.Mem.tail)))) (by with_reducible assumption) ?_) | ((with_reducible show wpAny _ _ (nsGet _ (Str.ofString "__hash__")) _ _ _); refine k_nsGet (Md.get (by assumption) (by (repeat (first | exact List.Mem.head _ | apply List.Mem.tail)))) (by with_reducible assumption) ?_) | (rw [fil_self]) | wp_step | (with_reducible refine wpAny_ite_false (by kernel_rfl) ?_) | (with_reducible refine wpAny_ite_true (by kernel_rfl) ?_)))
  refine ⟨?_⟩
  refine k_setSlot D5 0 rfl (by decide) (o' := kCls N [] true [] #[some (.ref T), none, some (.str "K" tk), some (.str "cmp_to_key.<locals>.K" t2)]) (by kernel_rfl) rfl fun h6 D6 => ?_
  clear D5
  dsimp only [List.set] at D6
  (repeat (first | ((with_reducible show wpAny _ _ (Sem.tryCatch _ _) _ _ _); refine halt ?_) | ((with_reducible show wpAny _ _ (setSlotAt _ _ _) _ _ _); refine halt ?_) | ((with_reducible show wpAny _ _ (nsDel _ _) _ _ _); refine halt ?_) | ((with_reducible show wpAny _ _ (updateCls _ _) _ _ _); refine halt ?_) | ((with_reducible show wpAny _ _ (nsSet _ _ _) _ _ _); refine halt ?_) | ((with_reducible show wpAny _ _ (alloc _) _ _ _); refine halt ?_) | ((with_reducible show wpAny _ _ (Bind.refreshMaker _) _ _ _); refine halt ?_) | ((with_reducible show wpAny _ _ (Builtin.Slots.install _ _ _ _) _ _ _); refine halt ?_) | ((with_reducible show wpAny _ _ (nsSetByValue _ _ _) _ _ _); refine halt ?_) | ((with_reducible show wpAny _ _ (nsGet _ (Str.ofString "__qualname__")) _ _ _); refine k_nsGet (Md.get (by assumption) (by (repeat (first | exact List.Mem.head _ | apply List.Mem.tail)))) (by with_reducible assumption) ?_) | ((with_reducible show wpAny _ _ (nsGet _ (Str.ofString "__new__")) _ _ _); refine k_nsGet (r := none) (Md.get (by assumption) (by (repeat (first | exact List.Mem.head _ | apply List.Mem.tail)))) (by kernel_rfl) ?_) | ((with_reducible show wpAny _ _ (nsGet _ (Str.ofString "__init_subclass__")) _ _ _); refine k_nsGet (r := none) (Md.get (by assumption) (by (repeat (first | exact List.Mem.head _ | apply List.Mem.tail)))) (by kernel_rfl) ?_) | ((with_reducible show wpAny _ _ (nsGet _ (Str.ofString "__class_getitem__")) _ _ _); refine k_nsGet (r := none) (Md.get (by assumption) (by (repeat (first | exact List.Mem.head _ | apply List.Mem.tail)))) (by kernel_rfl) ?_) | ((with_reducible show wpAny _ _ (nsGet _ (Str.ofString "__classcell__")) _ _ _); refine k_nsGet (r := none) (Md.get (by assumption) (by (repeat (first | exact List.Mem.head _ | apply List.Mem.tail)))) (by kernel_rfl) ?_) | ((with_reducible show wpAny _ _ (nsGet _ (Str.ofString "__classdictcell__")) _ _ _); refine k_nsGet (r := none) (Md.get (by assumption) (by (repeat (first | exact List.Mem.head _ | apply List.Mem.tail)))) (by kernel_rfl) ?_) | ((with_reducible show wpAny _ _ (nsGet _ (Str.ofString "__doc__")) _ _ _); refine k_nsGet (r := none) (Md.get (by assumption) (by (repeat (first | exact List.Mem.head _ | apply List.Mem.tail)))) (by kernel_rfl) ?_) | ((with_reducible show wpAny _ _ (nsGet _ (Str.ofString "obj")) _ _ _); refine k_nsGet (r := none) (Md.get (by assumption) (by (repeat (first | exact List.Mem.head _ | apply List.Mem.tail)))) (by kernel_rfl) ?_) | ((with_reducible show wpAny _ _ (nsGet _ (Str.ofString "__eq__")) _ _ _); refine k_nsGet (Md.get (by assumption) (by (repeat (first | exact List.Mem.head _ | apply List.Mem.tail)))) (by with_reducible assumption) ?_) | ((with_reducible show wpAny _ _ (nsGet _ (Str.ofString "__hash__")) _ _ _); refine k_nsGet (Md.get (by assumption) (by (repeat (first | exact List.Mem.head _ | apply List.Mem.tail)))) (by with_reducible assumption) ?_) | (rw [fil_self]) | wp_step | (with_reducible refine wpAny_ite_false (by kernel_rfl) ?_) | (with_reducible refine wpAny_ite_true (by kernel_rfl) ?_)))
  refine ⟨?_⟩
  refine k_nsDel D6 1 rfl (by kernel_rfl) (o' := dO (nsEnts2 hh tt t1 t3 S f0 f1 f2 f3 f4 f5 st []) 1) (by kernel_rfl) rfl fun h7 D7 => ?_
  clear D6
  dsimp only [List.set] at D7
  (repeat (first | ((with_reducible show wpAny _ _ (Sem.tryCatch _ _) _ _ _); refine halt ?_) | ((with_reducible show wpAny _ _ (setSlotAt _ _ _) _ _ _); refine halt ?_) | ((with_reducible show wpAny _ _ (nsDel _ _) _ _ _); refine halt ?_) | ((with_reducible show wpAny _ _ (updateCls _ _) _ _ _); refine halt ?_) | ((with_reducible show wpAny _ _ (nsSet _ _ _) _ _ _); refine halt ?_) | ((with_reducible show wpAny _ _ (alloc _) _ _ _); refine halt ?_) | ((with_reducible show wpAny _ _ (Bind.refreshMaker _) _ _ _); refine halt ?_) | ((with_reducible show wpAny _ _ (Builtin.Slots.install _ _ _ _) _ _ _); refine halt ?_) | ((with_reducible show wpAny _ _ (nsSetByValue _ _ _) _ _ _); refine halt ?_) | ((with_reducible show wpAny _ _ (nsGet _ (Str.ofString "__qualname__")) _ _ _); refine k_nsGet (Md.get (by assumption) (by (repeat (first | exact List.Mem.head _ | apply List.Mem.tail)))) (by with_reducible assumption) ?_) | ((with_reducible show wpAny _ _ (nsGet _ (Str.ofString "__new__")) _ _ _); refine k_nsGet (r := none) (Md.get (by assumption) (by (repeat (first | exact List.Mem.head _ | apply List.Mem.tail)))) (by kernel_rfl) ?_) | ((with_reducible show wpAny _ _ (nsGet _ (Str.ofString "__init_subclass__")) _ _ _); refine k_nsGet (r := none) (Md.get (by assumption) (by (repeat (first | exact List.Mem.head _ | apply List.Mem.tail)))) (by kernel_rfl) ?_) | ((with_reducible show wpAny _ _ (nsGet _ (Str.ofString "__class_getitem__")) _ _ _); refine k_nsGet (r := none) (Md.get (by assumption) (by (repeat (first | exact List.Mem.head _ | apply List.Mem.tail)))) (by kernel_rfl) ?_) | ((with_reducible show wpAny _ _ (nsGet _ (Str.ofString "__classcell__")) _ _ _); refine k_nsGet (r := none) (Md.get (by assumption) (by (repeat (first | exact List.Mem.head _ | apply List.Mem.tail)))) (by kernel_rfl) ?_) | ((with_reducible show wpAny _ _ (nsGet _ (Str.ofString "__classdictcell__")) _ _ _); refine k_nsGet (r := none) (Md.get (by assumption) (by (repeat (first | exact List.Mem.head _ | apply List.Mem.tail)))) (by kernel_rfl) ?_) | ((with_reducible show wpAny _ _ (nsGet _ (Str.ofString "__doc__")) _ _ _); refine k_nsGet (r := none) (Md.get (by assumption) (by (repeat (first | exact List.Mem.head _ | apply List.Mem.tail)))) (by kernel_rfl) ?_) | ((with_reducible show wpAny _ _ (nsGet _ (Str.ofString "obj")) _ _ _); refine k_nsGet (r := none) (Md.get (by assumption) (by (repeat (first | exact List.Mem.head _ | apply List.Mem.tail)))) (by kernel_rfl) ?_) | ((with_reducible show wpAny _ _ (nsGet _ (Str.ofString "__eq__")) _ _ _); refine k_nsGet (Md.get (by assumption) (by (repeat (first | exact List.Mem.head _ | apply List.Mem.tail)))) (by with_reducible assumption) ?_) | ((with_reducible show wpAny _ _ (nsGet _ (Str.ofString "__hash__")) _ _ _); refine k_nsGet (Md.get (by assumption) (by (repeat (first | exact List.Mem.head _ | apply List.Mem.tail)))) (by with_reducible assumption) ?_) | (rw [fil_self]) | wp_step | (with_reducible refine wpAny_ite_false (by kernel_rfl) ?_) | (with_reducible refine wpAny_ite_true (by kernel_rfl) ?_)))
  refine ⟨?_⟩
  refine k_updateCls D7 0 rfl rfl (o' := kCls N [.ref C, .type "object"] true [] #[some (.ref T), none, some (.str "K" tk), some (.str "cmp_to_key.<locals>.K" t2)]) (by kernel_rfl) rfl (by kernel_rfl) fun h8 D8 => ?_
  clear D7
  dsimp only [List.set] at D8
  (repeat (first | ((with_reducible show wpAny _ _ (Sem.tryCatch _ _) _ _ _); refine halt ?_) | ((with_reducible show wpAny _ _ (setSlotAt _ _ _) _ _ _); refine halt ?_) | ((with_reducible show wpAny _ _ (nsDel _ _) _ _ _); refine halt ?_) | ((with_reducible show wpAny _ _ (updateCls _ _) _ _ _); refine halt ?_) | ((with_reducible show wpAny _ _ (nsSet _ _ _) _ _ _); refine halt ?_) | ((with_reducible show wpAny _ _ (alloc _) _ _ _); refine halt ?_) | ((with_reducible show wpAny _ _ (Bind.refreshMaker _) _ _ _); refine halt ?_) | ((with_reducible show wpAny _ _ (Builtin.Slots.install _ _ _ _) _ _ _); refine halt ?_) | ((with_reducible show wpAny _ _ (nsSetByValue _ _ _) _ _ _); refine halt ?_) | ((with_reducible show wpAny _ _ (nsGet _ (Str.ofString "__qualname__")) _ _ _); refine k_nsGet (Md.get (by assumption) (by (repeat (first | exact List.Mem.head _ | apply List.Mem.tail)))) (by with_reducible assumption) ?_) | ((with_reducible show wpAny _ _ (nsGet _ (Str.ofString "__new__")) _ _ _); refine k_nsGet (r := none) (Md.get (by assumption) (by (repeat (first | exact List.Mem.head _ | apply List.Mem.tail)))) (by kernel_rfl) ?_) | ((with_reducible show wpAny _ _ (nsGet _ (Str.ofString "__init_subclass__")) _ _ _); refine k_nsGet (r := none) (Md.get (by assumption) (by (repeat (first | exact List.Mem.head _ | apply List.Mem.tail)))) (by kernel_rfl) ?_) | ((with_reducible show wpAny _ _ (nsGet _ (Str.ofString "__class_getitem__")) _ _ _); refine k_nsGet (r := none) (Md.get (by assumption) (by (repeat (first | exact List.Mem.head _ | apply List.Mem.tail)))) (by kernel_rfl) ?_) | ((with_reducible show wpAny _ _ (nsGet _ (Str.ofString "__classcell__")) _ _ _); refine k_nsGet (r := none) (Md.get (by assumption) (by (repeat (first | exact List.Mem.head _ | apply List.Mem.tail)))) (by kernel_rfl) ?_) | ((with_reducible show wpAny _ _ (nsGet _ (Str.ofString "__classdictcell__")) _ _ _); refine k_nsGet (r := none) (Md.get (by assumption) (by (repeat (first | exact List.Mem.head _ | apply List.Mem.tail)))) (by kernel_rfl) ?_) | ((with_reducible show wpAny _ _ (nsGet _ (Str.ofString "__doc__")) _ _ _); refine k_nsGet (r := none) (Md.get (by assumption) (by (repeat (first | exact List.Mem.head _ | apply List.Mem.tail)))) (by kernel_rfl) ?_) | ((with_reducible show wpAny _ _ (nsGet _ (Str.ofString "obj")) _ _ _); refine k_nsGet (r := none) (Md.get (by assumption) (by (repeat (first | exact List.Mem.head _ | apply List.Mem.tail)))) (by kernel_rfl) ?_) | ((with_reducible show wpAny _ _ (nsGet _ (Str.ofString "__eq__")) _ _ _); refine k_nsGet (Md.get (by assumption) (by (repeat (first | exact List.Mem.head _ | apply List.Mem.tail)))) (by with_reducible assumption) ?_) | ((with_reducible show wpAny _ _ (nsGet _ (Str.ofString "__hash__")) _ _ _); refine k_nsGet (Md.get (by assumption) (by (repeat (first | exact List.Mem.head _ | apply List.Mem.tail)))) (by with_reducible assumption) ?_) | (rw [fil_self]) | wp_step | (with_reducible refine wpAny_ite_false (by kernel_rfl) ?_) | (with_reducible refine wpAny_ite_true (by kernel_rfl) ?_)))
  refine ⟨?_⟩
  refine k_setSlot D8 0 rfl (by decide) (o' := kCls N [.ref C, .type "object"] true [] #[some (.ref T), none, some (.str "K" tk), some (.str "cmp_to_key.<locals>.K" t2), some (.builtin "object.__new__")]) (by kernel_rfl) rfl fun h9 D9 => ?_
  clear D8
  dsimp only [List.set] at D9
  (repeat (first | ((with_reducible show wpAny _ _ (Sem.tryCatch _ _) _ _ _); refine halt ?_) | ((with_reducible show wpAny _ _ (setSlotAt _ _ _) _ _ _); refine halt ?_) | ((with_reducible show wpAny _ _ (nsDel _ _) _ _ _); refine halt ?_) | ((with_reducible show wpAny _ _ (updateCls _ _) _ _ _); refine halt ?_) | ((with_reducible show wpAny _ _ (nsSet _ _ _) _ _ _); refine halt ?_) | ((with_reducible show wpAny _ _ (alloc _) _ _ _); refine halt ?_) | ((with_reducible show wpAny _ _ (Bind.refreshMaker _) _ _ _); refine halt ?_) | ((with_reducible show wpAny _ _ (Builtin.Slots.install _ _ _ _) _ _ _); refine halt ?_) | ((with_reducible show wpAny _ _ (nsSetByValue _ _ _) _ _ _); refine halt ?_) | ((with_reducible show wpAny _ _ (nsGet _ (Str.ofString "__qualname__")) _ _ _); refine k_nsGet (Md.get (by assumption) (by (repeat (first | exact List.Mem.head _ | apply List.Mem.tail)))) (by with_reducible assumption) ?_) | ((with_reducible show wpAny _ _ (nsGet _ (Str.ofString "__new__")) _ _ _); refine k_nsGet (r := none) (Md.get (by assumption) (by (repeat (first | exact List.Mem.head _ | apply List.Mem.tail)))) (by kernel_rfl) ?_) | ((with_reducible show wpAny _ _ (nsGet _ (Str.ofString "__init_subclass__")) _ _ _); refine k_nsGet (r := none) (Md.get (by assumption) (by (repeat (first | exact List.Mem.head _ | apply List.Mem.tail)))) (by kernel_rfl) ?_) | ((with_reducible show wpAny _ _ (nsGet _ (Str.ofString "__class_getitem__")) _ _ _); refine k_nsGet (r := none) (Md.get (by assumption) (by (repeat (first | exact List.Mem.head _ | apply List.Mem.tail)))) (by kernel_rfl) ?_) | ((with_reducible show wpAny _ _ (nsGet _ (Str.ofString "__classcell__")) _ _ _); refine k_nsGet (r := none) (Md.get (by assumption) (by (repeat (first | exact List.Mem.head _ | apply List.Mem.tail)))) (by kernel_rfl) ?_) | ((with_reducible show wpAny _ _ (nsGet _ (Str.ofString "__classdictcell__")) _ _ _); refine k_nsGet (r := none) (Md.get (by assumption) (by (repeat (first | exact List.Mem.head _ | apply List.Mem.tail)))) (by kernel_rfl) ?_) | ((with_reducible show wpAny _ _ (nsGet _ (Str.ofString "__doc__")) _ _ _); refine k_nsGet (r := none) (Md.get (by assumption) (by (repeat (first | exact List.Mem.head _ | apply List.Mem.tail)))) (by kernel_rfl) ?_) | ((with_reducible show wpAny _ _ (nsGet _ (Str.ofString "obj")) _ _ _); refine k_nsGet (r := none) (Md.get (by assumption) (by (repeat (first | exact List.Mem.head _ | apply List.Mem.tail)))) (by kernel_rfl) ?_) | ((with_reducible show wpAny _ _ (nsGet _ (Str.ofString "__eq__")) _ _ _); refine k_nsGet (Md.get (by assumption) (by (repeat (first | exact List.Mem.head _ | apply List.Mem.tail)))) (by with_reducible assumption) ?_) | ((with_reducible show wpAny _ _ (nsGet _ (Str.ofString "__hash__")) _ _ _); refine k_nsGet (Md.get (by assumption) (by (repeat (first | exact List.Mem.head _ | apply List.Mem.tail)))) (by with_reducible assumption) ?_) | (rw [fil_self]) | wp_step | (with_reducible refine wpAny_ite_false (by kernel_rfl) ?_) | (with_reducible refine wpAny_ite_true (by kernel_rfl) ?_)))
  refine ⟨?_⟩
  refine k_refresh (D9.get (by (repeat (first | exact List.Mem.head _ | apply List.Mem.tail)))) rfl rfl rfl (D9.get (by (repeat (first | exact List.Mem.head _ | apply List.Mem.tail)))) (by kernel_rfl) ?_
  (repeat (first | ((with_reducible show wpAny _ _ (Sem.tryCatch _ _) _ _ _); refine halt ?_) | ((with_reducible show wpAny _ _ (setSlotAt _ _ _) _ _ _); refine halt ?_) | ((with_reducible show wpAny _ _ (nsDel _ _) _ _ _); refine halt ?_) | ((with_reducible show wpAny _ _ (updateCls _ _) _ _ _); refine halt ?_) | ((with_reducible show wpAny _ _ (nsSet _ _ _) _ _ _); refine halt ?_) | ((with_reducible show wpAny _ _ (alloc _) _ _ _); refine halt ?_) | ((with_reducible show wpAny _ _ (Bind.refreshMaker _) _ _ _); refine halt ?_) | ((with_reducible show wpAny _ _ (Builtin.Slots.install _ _ _ _) _ _ _); refine halt ?_) | ((with_reducible show wpAny _ _ (nsSetByValue _ _ _) _ _ _); refine halt ?_) | ((with_reducible show wpAny _ _ (nsGet _ (Str.ofString "__qualname__")) _ _ _); refine k_nsGet (Md.get (by assumption) (by (repeat (first | exact List.Mem.head _ | apply List.Mem.tail)))) (by with_reducible assumption) ?_) | ((with_reducible show wpAny _ _ (nsGet _ (Str.ofString "__new__")) _ _ _); refine k_nsGet (r := none) (Md.get (by assumption) (by (repeat (first | exact List.Mem.head _ | apply List.Mem.tail)))) (by kernel_rfl) ?_) | ((with_reducible show wpAny _ _ (nsGet _ (Str.ofString "__init_subclass__")) _ _ _); refine k_nsGet (r := none) (Md.get (by assumption) (by (repeat (first | exact List.Mem.head _ | apply List.Mem.tail)))) (by kernel_rfl) ?_) | ((with_reducible show wpAny _ _ (nsGet _ (Str.ofString "__class_getitem__")) _ _ _); refine k_nsGet (r := none) (Md.get (by assumption) (by (repeat (first | exact List.Mem.head _ | apply List.Mem.tail)))) (by kernel_rfl) ?_) | ((with_reducible show wpAny _ _ (nsGet _ (Str.ofString "__classcell__")) _ _ _); refine k_nsGet (r := none) (Md.get (by assumption) (by (repeat (first | exact List.Mem.head _ | apply List.Mem.tail)))) (by kernel_rfl) ?_) | ((with_reducible show wpAny _ _ (nsGet _ (Str.ofString "__classdictcell__")) _ _ _); refine k_nsGet (r := none) (Md.get (by assumption) (by (repeat (first | exact List.Mem.head _ | apply List.Mem.tail)))) (by kernel_rfl) ?_) | ((with_reducible show wpAny _ _ (nsGet _ (Str.ofString "__doc__")) _ _ _); refine k_nsGet (r := none) (Md.get (by assumption) (by (repeat (first | exact List.Mem.head _ | apply List.Mem.tail)))) (by kernel_rfl) ?_) | ((with_reducible show wpAny _ _ (nsGet _ (Str.ofString "obj")) _ _ _); refine k_nsGet (r := none) (Md.get (by assumption) (by (repeat (first | exact List.Mem.head _ | apply List.Mem.tail)))) (by kernel_rfl) ?_) | ((with_reducible show wpAny _ _ (nsGet _ (Str.ofString "__eq__")) _ _ _); refine k_nsGet (Md.get (by assumption) (by (repeat (first | exact List.Mem.head _ | apply List.Mem.tail)))) (by with_reducible assumption) ?_) | ((with_reducible show wpAny _ _ (nsGet _ (Str.ofString "__hash__")) _ _ _); refine k_nsGet (Md.get (by assumption) (by (repeat (first | exact List.Mem.head _ | apply List.Mem.tail)))) (by with_reducible assumption) ?_) | (rw [fil_self]) | wp_step | (with_reducible refine wpAny_ite_false (by kernel_rfl) ?_) | (with_reducible refine wpAny_ite_true (by kernel_rfl) ?_)))
  refine ⟨?_⟩
  unfold Builtin.Slots.install
  (repeat (first | ((with_reducible show wpAny _ _ (Sem.tryCatch _ _) _ _ _); refine halt ?_) | ((with_reducible show wpAny _ _ (setSlotAt _ _ _) _ _ _); refine halt ?_) | ((with_reducible show wpAny _ _ (nsDel _ _) _ _ _); refine halt ?_) | ((with_reducible show wpAny _ _ (updateCls _ _) _ _ _); refine halt ?_) | ((with_reducible show wpAny _ _ (nsSet _ _ _) _ _ _); refine halt ?_) | ((with_reducible show wpAny _ _ (alloc _) _ _ _); refine halt ?_) | ((with_reducible show wpAny _ _ (Bind.refreshMaker _) _ _ _); refine halt ?_) | ((with_reducible show wpAny _ _ (Builtin.Slots.install _ _ _ _) _ _ _); refine halt ?_) | ((with_reducible show wpAny _ _ (nsSetByValue _ _ _) _ _ _); refine halt ?_) | ((with_reducible show wpAny _ _ (nsGet _ (Str.ofString "__qualname__")) _ _ _); refine k_nsGet (Md.get (by assumption) (by (repeat (first | exact List.Mem.head _ | apply List.Mem.tail)))) (by with_reducible assumption) ?_) | ((with_reducible show wpAny _ _ (nsGet _ (Str.ofString "__new__")) _ _ _); refine k_nsGet (r := none) (Md.get (by assumption) (by (repeat (first | exact List.Mem.head _ | apply List.Mem.tail)))) (by kernel_rfl) ?_) | ((with_reducible show wpAny _ _ (nsGet _ (Str.ofString "__init_subclass__")) _ _ _); refine k_nsGet (r := none) (Md.get (by assumption) (by (repeat (first | exact List.Mem.head _ | apply List.Mem.tail)))) (by kernel_rfl) ?_) | ((with_reducible show wpAny _ _ (nsGet _ (Str.ofString "__class_getitem__")) _ _ _); refine k_nsGet (r := none) (Md.get (by assumption) (by (repeat (first | exact List.Mem.head _ | apply List.Mem.tail)))) (by kernel_rfl) ?_) | ((with_reducible show wpAny _ _ (nsGet _ (Str.ofString "__classcell__")) _ _ _); refine k_nsGet (r := none) (Md.get (by assumption) (by (repeat (first | exact List.Mem.head _ | apply List.Mem.tail)))) (by kernel_rfl) ?_) | ((with_reducible show wpAny _ _ (nsGet _ (Str.ofString "__classdictcell__")) _ _ _); refine k_nsGet (r := none) (Md.get (by assumption) (by (repeat (first | exact List.Mem.head _ | apply List.Mem.tail)))) (by kernel_rfl) ?_) | ((with_reducible show wpAny _ _ (nsGet _ (Str.ofString "__doc__")) _ _ _); refine k_nsGet (r := none) (Md.get (by assumption) (by (repeat (first | exact List.Mem.head _ | apply List.Mem.tail)))) (by kernel_rfl) ?_) | ((with_reducible show wpAny _ _ (nsGet _ (Str.ofString "obj")) _ _ _); refine k_nsGet (r := none) (Md.get (by assumption) (by (repeat (first | exact List.Mem.head _ | apply List.Mem.tail)))) (by kernel_rfl) ?_) | ((with_reducible show wpAny _ _ (nsGet _ (Str.ofString "__eq__")) _ _ _); refine k_nsGet (Md.get (by assumption) (by (repeat (first | exact List.Mem.head _ | apply List.Mem.tail)))) (by with_reducible assumption) ?_) | ((with_reducible show wpAny _ _ (nsGet _ (Str.ofString "__hash__")) _ _ _); refine k_nsGet (Md.get (by assumption) (by (repeat (first | exact List.Mem.head _ | apply List.Mem.tail)))) (by with_reducible assumption) ?_) | (rw [fil_self]) | wp_step | (with_reducible refine wpAny_ite_false (by kernel_rfl) ?_) | (with_reducible refine wpAny_ite_true (by kernel_rfl) ?_)))
  refine ⟨?_⟩
  refine m_alloc D9 rfl fun md h10 D10 => ?_
  replace D10 := Md.to (l' := [(md, { cls := .type "member_descriptor", data := .fields #[.str "obj" t, .ref C, .builtin "proto.slot", .builtin "proto.slot#set", .int 0 0] }),
    (C, kCls N [.ref C, .type "object"] true [] #[some (.ref T), none, some (.str "K" tk), some (.str "cmp_to_key.<locals>.K" t2), some (.builtin "object.__new__")]), (N, dO (nsEnts2 hh tt t1 t3 S f0 f1 f2 f3 f4 f5 st []) 1)]) D10 (by kernel_rfl)
  clear D9
  (repeat (first | ((with_reducible show wpAny _ _ (Sem.tryCatch _ _) _ _ _); refine halt ?_) | ((with_reducible show wpAny _ _ (setSlotAt _ _ _) _ _ _); refine halt ?_) | ((with_reducible show wpAny _ _ (nsDel _ _) _ _ _); refine halt ?_) | ((with_reducible show wpAny _ _ (updateCls _ _) _ _ _); refine halt ?_) | ((with_reducible show wpAny _ _ (nsSet _ _ _) _ _ _); refine halt ?_) | ((with_reducible show wpAny _ _ (alloc _) _ _ _); refine halt ?_) | ((with_reducible show wpAny _ _ (Bind.refreshMaker _) _ _ _); refine halt ?_) | ((with_reducible show wpAny _ _ (Builtin.Slots.install _ _ _ _) _ _ _); refine halt ?_) | ((with_reducible show wpAny _ _ (nsSetByValue _ _ _) _ _ _); refine halt ?_) | ((with_reducible show wpAny _ _ (nsGet _ (Str.ofString "__qualname__")) _ _ _); refine k_nsGet (Md.get (by assumption) (by (repeat (first | exact List.Mem.head _ | apply List.Mem.tail)))) (by with_reducible assumption) ?_) | ((with_reducible show wpAny _ _ (nsGet _ (Str.ofString "__new__")) _ _ _); refine k_nsGet (r := none) (Md.get (by assumption) (by (repeat (first | exact List.Mem.head _ | apply List.Mem.tail)))) (by kernel_rfl) ?_) | ((with_reducible show wpAny _ _ (nsGet _ (Str.ofString "__init_subclass__")) _ _ _); refine k_nsGet (r := none) (Md.get (by assumption) (by (repeat (first | exact List.Mem.head _ | apply List.Mem.tail)))) (by kernel_rfl) ?_) | ((with_reducible show wpAny _ _ (nsGet _ (Str.ofString "__class_getitem__")) _ _ _); refine k_nsGet (r := none) (Md.get (by assumption) (by (repeat (first | exact List.Mem.head _ | apply List.Mem.tail)))) (by kernel_rfl) ?_) | ((with_reducible show wpAny _ _ (nsGet _ (Str.ofString "__classcell__")) _ _ _); refine k_nsGet (r := none) (Md.get (by assumption) (by (repeat (first | exact List.Mem.head _ | apply List.Mem.tail)))) (by kernel_rfl) ?_) | ((with_reducible show wpAny _ _ (nsGet _ (Str.ofString "__classdictcell__")) _ _ _); refine k_nsGet (r := none) (Md.get (by assumption) (by (repeat (first | exact List.Mem.head _ | apply List.Mem.tail)))) (by kernel_rfl) ?_) | ((with_reducible show wpAny _ _ (nsGet _ (Str.ofString "__doc__")) _ _ _); refine k_nsGet (r := none) (Md.get (by assumption) (by (repeat (first | exact List.Mem.head _ | apply List.Mem.tail)))) (by kernel_rfl) ?_) | ((with_reducible show wpAny _ _ (nsGet _ (Str.ofString "obj")) _ _ _); refine k_nsGet (r := none) (Md.get (by assumption) (by (repeat (first | exact List.Mem.head _ | apply List.Mem.tail)))) (by kernel_rfl) ?_) | ((with_reducible show wpAny _ _ (nsGet _ (Str.ofString "__eq__")) _ _ _); refine k_nsGet (Md.get (by assumption) (by (repeat (first | exact List.Mem.head _ | apply List.Mem.tail)))) (by with_reducible assumption) ?_) | ((with_reducible show wpAny _ _ (nsGet _ (Str.ofString "__hash__")) _ _ _); refine k_nsGet (Md.get (by assumption) (by (repeat (first | exact List.Mem.head _ | apply List.Mem.tail)))) (by with_reducible assumption) ?_) | (rw [fil_self]) | wp_step | (with_reducible refine wpAny_ite_false (by kernel_rfl) ?_) | (with_reducible refine wpAny_ite_true (by kernel_rfl) ?_)))
  refine ⟨?_⟩
  unfold nsSetByValue
  refine wpAny_bind (wpAny_loadPart' (D10.get (by (repeat (first | exact List.Mem.head _ | apply List.Mem.tail)))) ?_)
  (repeat (first | ((with_reducible show wpAny _ _ (Sem.tryCatch _ _) _ _ _); refine halt ?_) | ((with_reducible show wpAny _ _ (setSlotAt _ _ _) _ _ _); refine halt ?_) | ((with_reducible show wpAny _ _ (nsDel _ _) _ _ _); refine halt ?_) | ((with_reducible show wpAny _ _ (updateCls _ _) _ _ _); refine halt ?_) | ((with_reducible show wpAny _ _ (nsSet _ _ _) _ _ _); refine halt ?_) | ((with_reducible show wpAny _ _ (alloc _) _ _ _); refine halt ?_) | ((with_reducible show wpAny _ _ (Bind.refreshMaker _) _ _ _); refine halt ?_) | ((with_reducible show wpAny _ _ (Builtin.Slots.install _ _ _ _) _ _ _); refine halt ?_) | ((with_reducible show wpAny _ _ (nsSetByValue _ _ _) _ _ _); refine halt ?_) | ((with_reducible show wpAny _ _ (nsGet _ (Str.ofString "__qualname__")) _ _ _); refine k_nsGet (Md.get (by assumption) (by (repeat (first | exact List.Mem.head _ | apply List.Mem.tail)))) (by with_reducible assumption) ?_) | ((with_reducible show wpAny _ _ (nsGet _ (Str.ofString "__new__")) _ _ _); refine k_nsGet (r := none) (Md.get (by assumption) (by (repeat (first | exact List.Mem.head _ | apply List.Mem.tail)))) (by kernel_rfl) ?_) | ((with_reducible show wpAny _ _ (nsGet _ (Str.ofString "__init_subclass__")) _ _ _); refine k_nsGet (r := none) (Md.get (by assumption) (by (repeat (first | exact List.Mem.head _ | apply List.Mem.tail)))) (by kernel_rfl) ?_) | ((with_reducible show wpAny _ _ (nsGet _ (Str.ofString "__class_getitem__")) _ _ _); refine k_nsGet (r := none) (Md.get (by assumption) (by (repeat (first | exact List.Mem.head _ | apply List.Mem.tail)))) (by kernel_rfl) ?_) | ((with_reducible show wpAny _ _ (nsGet _ (Str.ofString "__classcell__")) _ _ _); refine k_nsGet (r := none) (Md.get (by assumption) (by (repeat (first | exact List.Mem.head _ | apply List.Mem.tail)))) (by kernel_rfl) ?_) | ((with_reducible show wpAny _ _ (nsGet _ (Str.ofString "__classdictcell__")) _ _ _); refine k_nsGet (r := none) (Md.get (by assumption) (by (repeat (first | exact List.Mem.head _ | apply List.Mem.tail)))) (by kernel_rfl) ?_) | ((with_reducible show wpAny _ _ (nsGet _ (Str.ofString "__doc__")) _ _ _); refine k_nsGet (r := none) (Md.get (by assumption) (by (repeat (first | exact List.Mem.head _ | apply List.Mem.tail)))) (by kernel_rfl) ?_) | ((with_reducible show wpAny _ _ (nsGet _ (Str.ofString "obj")) _ _ _); refine k_nsGet (r := none) (Md.get (by assumption) (by (repeat (first | exact List.Mem.head _ | apply List.Mem.tail)))) (by kernel_rfl) ?_) | ((with_reducible show wpAny _ _ (nsGet _ (Str.ofString "__eq__")) _ _ _); refine k_nsGet (Md.get (by assumption) (by (repeat (first | exact List.Mem.head _ | apply List.Mem.tail)))) (by with_reducible assumption) ?_) | ((with_reducible show wpAny _ _ (nsGet _ (Str.ofString "__hash__")) _ _ _); refine k_nsGet (Md.get (by assumption) (by (repeat (first | exact List.Mem.head _ | apply List.Mem.tail)))) (by with_reducible assumption) ?_) | (rw [fil_self]) | wp_step | (with_reducible refine wpAny_ite_false (by kernel_rfl) ?_) | (with_reducible refine wpAny_ite_true (by kernel_rfl) ?_)))
  refine ⟨?_⟩
  refine k_nsSet D10 2 rfl (by kernel_rfl) rfl (dO (nsEnts2 hh tt t1 t3 S f0 f1 f2 f3 f4 f5 st [⟨reduceHash (w.params.strHash (Str.ofString "obj").cps), .str "obj" (t + 1), .ref md⟩]) 2) (by kernel_rfl) rfl fun h11 D11 => ?_
  clear D10
  dsimp only [List.set] at D11
  (repeat (first | ((with_reducible show wpAny _ _ (Sem.tryCatch _ _) _ _ _); refine halt ?_) | ((with_reducible show wpAny _ _ (setSlotAt _ _ _) _ _ _); refine halt ?_) | ((with_reducible show wpAny _ _ (nsDel _ _) _ _ _); refine halt ?_) | ((with_reducible show wpAny _ _ (updateCls _ _) _ _ _); refine halt ?_) | ((with_reducible show wpAny _ _ (nsSet _ _ _) _ _ _); refine halt ?_) | ((with_reducible show wpAny _ _ (alloc _) _ _ _); refine halt ?_) | ((with_reducible show wpAny _ _ (Bind.refreshMaker _) _ _ _); refine halt ?_) | ((with_reducible show wpAny _ _ (Builtin.Slots.install _ _ _ _) _ _ _); refine halt ?_) | ((with_reducible show wpAny _ _ (nsSetByValue _ _ _) _ _ _); refine halt ?_) | ((with_reducible show wpAny _ _ (nsGet _ (Str.ofString "__qualname__")) _ _ _); refine k_nsGet (Md.get (by assumption) (by (repeat (first | exact List.Mem.head _ | apply List.Mem.tail)))) (by with_reducible assumption) ?_) | ((with_reducible show wpAny _ _ (nsGet _ (Str.ofString "__new__")) _ _ _); refine k_nsGet (r := none) (Md.get (by assumption) (by (repeat (first | exact List.Mem.head _ | apply List.Mem.tail)))) (by kernel_rfl) ?_) | ((with_reducible show wpAny _ _ (nsGet _ (Str.ofString "__init_subclass__")) _ _ _); refine k_nsGet (r := none) (Md.get (by assumption) (by (repeat (first | exact List.Mem.head _ | apply List.Mem.tail)))) (by kernel_rfl) ?_) | ((with_reducible show wpAny _ _ (nsGet _ (Str.ofString "__class_getitem__")) _ _ _); refine k_nsGet (r := none) (Md.get (by assumption) (by (repeat (first | exact List.Mem.head _ | apply List.Mem.tail)))) (by kernel_rfl) ?_) | ((with_reducible show wpAny _ _ (nsGet _ (Str.ofString "__classcell__")) _ _ _); refine k_nsGet (r := none) (Md.get (by assumption) (by (repeat (first | exact List.Mem.head _ | apply List.Mem.tail)))) (by kernel_rfl) ?_) | ((with_reducible show wpAny _ _ (nsGet _ (Str.ofString "__classdictcell__")) _ _ _); refine k_nsGet (r := none) (Md.get (by assumption) (by (repeat (first | exact List.Mem.head _ | apply List.Mem.tail)))) (by kernel_rfl) ?_) | ((with_reducible show wpAny _ _ (nsGet _ (Str.ofString "__doc__")) _ _ _); refine k_nsGet (r := none) (Md.get (by assumption) (by (repeat (first | exact List.Mem.head _ | apply List.Mem.tail)))) (by kernel_rfl) ?_) | ((with_reducible show wpAny _ _ (nsGet _ (Str.ofString "obj")) _ _ _); refine k_nsGet (r := none) (Md.get (by assumption) (by (repeat (first | exact List.Mem.head _ | apply List.Mem.tail)))) (by kernel_rfl) ?_) | ((with_reducible show wpAny _ _ (nsGet _ (Str.ofString "__eq__")) _ _ _); refine k_nsGet (Md.get (by assumption) (by (repeat (first | exact List.Mem.head _ | apply List.Mem.tail)))) (by with_reducible assumption) ?_) | ((with_reducible show wpAny _ _ (nsGet _ (Str.ofString "__hash__")) _ _ _); refine k_nsGet (Md.get (by assumption) (by (repeat (first | exact List.Mem.head _ | apply List.Mem.tail)))) (by with_reducible assumption) ?_) | (rw [fil_self]) | wp_step | (with_reducible refine wpAny_ite_false (by kernel_rfl) ?_) | (with_reducible refine wpAny_ite_true (by kernel_rfl) ?_)))
  refine ⟨?_⟩
  refine k_updateCls D11 1 rfl rfl (o' := kCls N [.ref C, .type "object"] false ["obj"] #[some (.ref T), none, some (.str "K" tk), some (.str "cmp_to_key.<locals>.K" t2), some (.builtin "object.__new__")]) (by kernel_rfl) rfl (by kernel_rfl) fun h12 D12 => ?_
  clear D11
  dsimp only [List.set] at D12
  (repeat (first | ((with_reducible show wpAny _ _ (Sem.tryCatch _ _) _ _ _); refine halt ?_) | ((with_reducible show wpAny _ _ (setSlotAt _ _ _) _ _ _); refine halt ?_) | ((with_reducible show wpAny _ _ (nsDel _ _) _ _ _); refine halt ?_) | ((with_reducible show wpAny _ _ (updateCls _ _) _ _ _); refine halt ?_) | ((with_reducible show wpAny _ _ (nsSet _ _ _) _ _ _); refine halt ?_) | ((with_reducible show wpAny _ _ (alloc _) _ _ _); refine halt ?_) | ((with_reducible show wpAny _ _ (Bind.refreshMaker _) _ _ _); refine halt ?_) | ((with_reducible show wpAny _ _ (Builtin.Slots.install _ _ _ _) _ _ _); refine halt ?_) | ((with_reducible show wpAny _ _ (nsSetByValue _ _ _) _ _ _); refine halt ?_) | ((with_reducible show wpAny _ _ (nsGet _ (Str.ofString "__qualname__")) _ _ _); refine k_nsGet (Md.get (by assumption) (by (repeat (first | exact List.Mem.head _ | apply List.Mem.tail)))) (by with_reducible assumption) ?_) | ((with_reducible show wpAny _ _ (nsGet _ (Str.ofString "__new__")) _ _ _); refine k_nsGet (r := none) (Md.get (by assumption) (by (repeat (first | exact List.Mem.head _ | apply List.Mem.tail)))) (by kernel_rfl) ?_) | ((with_reducible show wpAny _ _ (nsGet _ (Str.ofString "__init_subclass__")) _ _ _); refine k_nsGet (r := none) (Md.get (by assumption) (by (repeat (first | exact List.Mem.head _ | apply List.Mem.tail)))) (by kernel_rfl) ?_) | ((with_reducible show wpAny _ _ (nsGet _ (Str.ofString "__class_getitem__")) _ _ _); refine k_nsGet (r := none) (Md.get (by assumption) (by (repeat (first | exact List.Mem.head _ | apply List.Mem.tail)))) (by kernel_rfl) ?_) | ((with_reducible show wpAny _ _ (nsGet _ (Str.ofString "__classcell__")) _ _ _); refine k_nsGet (r := none) (Md.get (by assumption) (by (repeat (first | exact List.Mem.head _ | apply List.Mem.tail)))) (by kernel_rfl) ?_) | ((with_reducible show wpAny _ _ (nsGet _ (Str.ofString "__classdictcell__")) _ _ _); refine k_nsGet (r := none) (Md.get (by assumption) (by (repeat (first | exact List.Mem.head _ | apply List.Mem.tail)))) (by kernel_rfl) ?_) | ((with_reducible show wpAny _ _ (nsGet _ (Str.ofString "__doc__")) _ _ _); refine k_nsGet (r := none) (Md.get (by assumption) (by (repeat (first | exact List.Mem.head _ | apply List.Mem.tail)))) (by kernel_rfl) ?_) | ((with_reducible show wpAny _ _ (nsGet _ (Str.ofString "obj")) _ _ _); refine k_nsGet (r := none) (Md.get (by assumption) (by (repeat (first | exact List.Mem.head _ | apply List.Mem.tail)))) (by kernel_rfl) ?_) | ((with_reducible show wpAny _ _ (nsGet _ (Str.ofString "__eq__")) _ _ _); refine k_nsGet (Md.get (by assumption) (by (repeat (first | exact List.Mem.head _ | apply List.Mem.tail)))) (by with_reducible assumption) ?_) | ((with_reducible show wpAny _ _ (nsGet _ (Str.ofString "__hash__")) _ _ _); refine k_nsGet (Md.get (by assumption) (by (repeat (first | exact List.Mem.head _ | apply List.Mem.tail)))) (by with_reducible assumption) ?_) | (rw [fil_self]) | wp_step | (with_reducible refine wpAny_ite_false (by kernel_rfl) ?_) | (with_reducible refine wpAny_ite_true (by kernel_rfl) ?_)))
  refine ⟨?_⟩
  refine k_setSlot D12 1 rfl (by decide) (o' := kCls N [.ref C, .type "object"] false ["obj"] #[some (.ref T), none, some (.str "K" tk), some (.str "cmp_to_key.<locals>.K" t2), some (.builtin "object.__new__"), some (.bool false)]) (by kernel_rfl) rfl fun h13 D13 => ?_
  clear D12
  dsimp only [List.set] at D13
  (repeat (first | ((with_reducible show wpAny _ _ (Sem.tryCatch _ _) _ _ _); refine halt ?_) | ((with_reducible show wpAny _ _ (setSlotAt _ _ _) _ _ _); refine halt ?_) | ((with_reducible show wpAny _ _ (nsDel _ _) _ _ _); refine halt ?_) | ((with_reducible show wpAny _ _ (updateCls _ _) _ _ _); refine halt ?_) | ((with_reducible show wpAny _ _ (nsSet _ _ _) _ _ _); refine halt ?_) | ((with_reducible show wpAny _ _ (alloc _) _ _ _); refine halt ?_) | ((with_reducible show wpAny _ _ (Bind.refreshMaker _) _ _ _); refine halt ?_) | ((with_reducible show wpAny _ _ (Builtin.Slots.install _ _ _ _) _ _ _); refine halt ?_) | ((with_reducible show wpAny _ _ (nsSetByValue _ _ _) _ _ _); refine halt ?_) | ((with_reducible show wpAny _ _ (nsGet _ (Str.ofString "__qualname__")) _ _ _); refine k_nsGet (Md.get (by assumption) (by (repeat (first | exact List.Mem.head _ | apply List.Mem.tail)))) (by with_reducible assumption) ?_) | ((with_reducible show wpAny _ _ (nsGet _ (Str.ofString "__new__")) _ _ _); refine k_nsGet (r := none) (Md.get (by assumption) (by (repeat (first | exact List.Mem.head _ | apply List.Mem.tail)))) (by kernel_rfl) ?_) | ((with_reducible show wpAny _ _ (nsGet _ (Str.ofString "__init_subclass__")) _ _ _); refine k_nsGet (r := none) (Md.get (by assumption) (by (repeat (first | exact List.Mem.head _ | apply List.Mem.tail)))) (by kernel_rfl) ?_) | ((with_reducible show wpAny _ _ (nsGet _ (Str.ofString "__class_getitem__")) _ _ _); refine k_nsGet (r := none) (Md.get (by assumption) (by (repeat (first | exact List.Mem.head _ | apply List.Mem.tail)))) (by kernel_rfl) ?_) | ((with_reducible show wpAny _ _ (nsGet _ (Str.ofString "__classcell__")) _ _ _); refine k_nsGet (r := none) (Md.get (by assumption) (by (repeat (first | exact List.Mem.head _ | apply List.Mem.tail)))) (by kernel_rfl) ?_) | ((with_reducible show wpAny _ _ (nsGet _ (Str.ofString "__classdictcell__")) _ _ _); refine k_nsGet (r := none) (Md.get (by assumption) (by (repeat (first | exact List.Mem.head _ | apply List.Mem.tail)))) (by kernel_rfl) ?_) | ((with_reducible show wpAny _ _ (nsGet _ (Str.ofString "__doc__")) _ _ _); refine k_nsGet (r := none) (Md.get (by assumption) (by (repeat (first | exact List.Mem.head _ | apply List.Mem.tail)))) (by kernel_rfl) ?_) | ((with_reducible show wpAny _ _ (nsGet _ (Str.ofString "obj")) _ _ _); refine k_nsGet (r := none) (Md.get (by assumption) (by (repeat (first | exact List.Mem.head _ | apply List.Mem.tail)))) (by kernel_rfl) ?_) | ((with_reducible show wpAny _ _ (nsGet _ (Str.ofString "__eq__")) _ _ _); refine k_nsGet (Md.get (by assumption) (by (repeat (first | exact List.Mem.head _ | apply List.Mem.tail)))) (by with_reducible assumption) ?_) | ((with_reducible show wpAny _ _ (nsGet _ (Str.ofString "__hash__")) _ _ _); refine k_nsGet (Md.get (by assumption) (by (repeat (first | exact List.Mem.head _ | apply List.Mem.tail)))) (by with_reducible assumption) ?_) | (rw [fil_self]) | wp_step | (with_reducible refine wpAny_ite_false (by kernel_rfl) ?_) | (with_reducible refine wpAny_ite_true (by kernel_rfl) ?_)))
  refine ⟨?_⟩
  refine k_nsSet D13 2 rfl (by kernel_rfl) rfl (dO (nsEnts2 hh tt t1 t3 S f0 f1 f2 f3 f4 f5 st [⟨reduceHash (w.params.strHash (Str.ofString "obj").cps), .str "obj" (t + 1), .ref md⟩, ⟨reduceHash (w.params.strHash (Str.ofString "__doc__").cps), .str "__doc__" (t + 1 + 1), .none⟩]) 3) (by kernel_rfl) rfl fun h14 D14 => ?_
  clear D13
  dsimp only [List.set] at D14
  have q2 : nsLook (Str.ofString "__eq__") (dO (nsEnts2 hh tt t1 t3 S f0 f1 f2 f3 f4 f5 st [⟨reduceHash (w.params.strHash (Str.ofString "obj").cps), .str "obj" (t + 1), .ref md⟩, ⟨reduceHash (w.params.strHash (Str.ofString "__doc__").cps), .str "__doc__" (t + 1 + 1), .none⟩]) 3) = pure (some (.ref f3)) := by kernel_rfl
  have q3 : nsLook (Str.ofString "__hash__") (dO (nsEnts2 hh tt t1 t3 S f0 f1 f2 f3 f4 f5 st [⟨reduceHash (w.params.strHash (Str.ofString "obj").cps), .str "obj" (t + 1), .ref md⟩, ⟨reduceHash (w.params.strHash (Str.ofString "__doc__").cps), .str "__doc__" (t + 1 + 1), .none⟩]) 3) = pure (some .none) := by kernel_rfl
  (repeat (first | ((with_reducible show wpAny _ _ (Sem.tryCatch _ _) _ _ _); refine halt ?_) | ((with_reducible show wpAny _ _ (setSlotAt _ _ _) _ _ _); refine halt ?_) | ((with_reducible show wpAny _ _ (nsDel _ _) _ _ _); refine halt ?_) | ((with_reducible show wpAny _ _ (updateCls _ _) _ _ _); refine halt ?_) | ((with_reducible show wpAny _ _ (nsSet _ _ _) _ _ _); refine halt ?_) | ((with_reducible show wpAny _ _ (alloc _) _ _ _); refine halt ?_) | ((with_reducible show wpAny _ _ (Bind.refreshMaker _) _ _ _); refine halt ?_) | ((with_reducible show wpAny _ _ (Builtin.Slots.install _ _ _ _) _ _ _); refine halt ?_) | ((with_reducible show wpAny _ _ (nsSetByValue _ _ _) _ _ _); refine halt ?_) | ((with_reducible show wpAny _ _ (nsGet _ (Str.ofString "__qualname__")) _ _ _); refine k_nsGet (Md.get (by assumption) (by (repeat (first | exact List.Mem.head _ | apply List.Mem.tail)))) (by with_reducible assumption) ?_) | ((with_reducible show wpAny _ _ (nsGet _ (Str.ofString "__new__")) _ _ _); refine k_nsGet (r := none) (Md.get (by assumption) (by (repeat (first | exact List.Mem.head _ | apply List.Mem.tail)))) (by kernel_rfl) ?_) | ((with_reducible show wpAny _ _ (nsGet _ (Str.ofString "__init_subclass__")) _ _ _); refine k_nsGet (r := none) (Md.get (by assumption) (by (repeat (first | exact List.Mem.head _ | apply List.Mem.tail)))) (by kernel_rfl) ?_) | ((with_reducible show wpAny _ _ (nsGet _ (Str.ofString "__class_getitem__")) _ _ _); refine k_nsGet (r := none) (Md.get (by assumption) (by (repeat (first | exact List.Mem.head _ | apply List.Mem.tail)))) (by kernel_rfl) ?_) | ((with_reducible show wpAny _ _ (nsGet _ (Str.ofString "__classcell__")) _ _ _); refine k_nsGet (r := none) (Md.get (by assumption) (by (repeat (first | exact List.Mem.head _ | apply List.Mem.tail)))) (by kernel_rfl) ?_) | ((with_reducible show wpAny _ _ (nsGet _ (Str.ofString "__classdictcell__")) _ _ _); refine k_nsGet (r := none) (Md.get (by assumption) (by (repeat (first | exact List.Mem.head _ | apply List.Mem.tail)))) (by kernel_rfl) ?_) | ((with_reducible show wpAny _ _ (nsGet _ (Str.ofString "__doc__")) _ _ _); refine k_nsGet (r := none) (Md.get (by assumption) (by (repeat (first | exact List.Mem.head _ | apply List.Mem.tail)))) (by kernel_rfl) ?_) | ((with_reducible show wpAny _ _ (nsGet _ (Str.ofString "obj")) _ _ _); refine k_nsGet (r := none) (Md.get (by assumption) (by (repeat (first | exact List.Mem.head _ | apply List.Mem.tail)))) (by kernel_rfl) ?_) | ((with_reducible show wpAny _ _ (nsGet _ (Str.ofString "__eq__")) _ _ _); refine k_nsGet (Md.get (by assumption) (by (repeat (first | exact List.Mem.head _ | apply List.Mem.tail)))) (by with_reducible assumption) ?_) | ((with_reducible show wpAny _ _ (nsGet _ (Str.ofString "__hash__")) _ _ _); refine k_nsGet (Md.get (by assumption) (by (repeat (first | exact List.Mem.head _ | apply List.Mem.tail)))) (by with_reducible assumption) ?_) | (rw [fil_self]) | wp_step | (with_reducible refine wpAny_ite_false (by kernel_rfl) ?_) | (with_reducible refine wpAny_ite_true (by kernel_rfl) ?_)))
  refine ⟨?_⟩
  refine wpAny_tryCatch (wpAny_holding ?_)
  clear q1 q2 q3
  have e1 : typeLookup (.type "str") "__set_name__" = pure none := by rw [typeLookup_type, builtinLookup_eq_fast]; kernel_rfl
  have e2 : typeLookup (.type "int") "__set_name__" = pure none := by rw [typeLookup_type, builtinLookup_eq_fast]; kernel_rfl
  have e3 : typeLookup (.type "list") "__set_name__" = pure none := by rw [typeLookup_type, builtinLookup_eq_fast]; kernel_rfl
  have e4 : typeLookup (.type "function") "__set_name__" = pure none := by rw [typeLookup_type, builtinLookup_eq_fast]; kernel_rfl
  have e5 : typeLookup (.type "NoneType") "__set_name__" = pure none := by rw [typeLookup_type, builtinLookup_eq_fast]; kernel_rfl
  have e6 : typeLookup (.type "tuple") "__set_name__" = pure none := by rw [typeLookup_type, builtinLookup_eq_fast]; kernel_rfl
  have e7 : typeLookup (.type "member_descriptor") "__set_name__" = pure none := by rw [typeLookup_type, builtinLookup_eq_fast]; kernel_rfl
  refine wpAny_bind (k_dictEntries (a := N) (D14.get (by (repeat (first | exact List.Mem.head _ | apply List.Mem.tail)))) rfl ?_)
  refine wpAny_bind (wpAny_of_eq (a := false) (by kernel_rfl) ?_)
  wp_step
  first | skip
  refine wpAny_bind (k_dictEntries (a := N) (D14.get (by (repeat (first | exact List.Mem.head _ | apply List.Mem.tail)))) rfl ?_)
  refine wpAny_bind (forIn_same (fun e he => ?_) ?_)
  · replace he := List.mem_toArray.mp (Array.mem_def.mpr he)
    simp only [nsEnts2, List.mem_append, List.mem_cons, List.not_mem_nil, or_false, List.cons_append, List.nil_append] at he
    rcases he with rfl | rfl | rfl | rfl | rfl | rfl | rfl | rfl | rfl | rfl | rfl | rfl | rfl
    all_goals refine wpAny_ite_false (by kernel_rfl) ?_
    all_goals first
      | refine wpAny_bind (k_specialV rfl e1 (wpAny_pure ⟨rfl, rfl⟩))
      | refine wpAny_bind (k_specialV rfl e2 (wpAny_pure ⟨rfl, rfl⟩))
      | refine wpAny_bind (k_specialV rfl e5 (wpAny_pure ⟨rfl, rfl⟩))
      | refine wpAny_bind (k_special (D14.keep _ _ hS) rfl e3 (wpAny_pure ⟨rfl, rfl⟩))
      | refine wpAny_bind (k_special (D14.keep _ _ hf0) hc0 e4 (wpAny_pure ⟨rfl, rfl⟩))
      | refine wpAny_bind (k_special (D14.keep _ _ hf1) hc1 e4 (wpAny_pure ⟨rfl, rfl⟩))
      | refine wpAny_bind (k_special (D14.keep _ _ hf2) hc2 e4 (wpAny_pure ⟨rfl, rfl⟩))
      | refine wpAny_bind (k_special (D14.keep _ _ hf3) hc3 e4 (wpAny_pure ⟨rfl, rfl⟩))
      | refine wpAny_bind (k_special (D14.keep _ _ hf4) hc4 e4 (wpAny_pure ⟨rfl, rfl⟩))
      | refine wpAny_bind (k_special (D14.keep _ _ hf5) hc5 e4 (wpAny_pure ⟨rfl, rfl⟩))
      | refine wpAny_bind (k_special (D14.keep _ _ hst) hcst e6 (wpAny_pure ⟨rfl, rfl⟩))
      | refine wpAny_bind (k_special (D14.get (by (repeat (first | exact List.Mem.head _ | apply List.Mem.tail)))) rfl e7 (wpAny_pure ⟨rfl, rfl⟩))
  clear e1 e2 e3 e4 e5 e6 e7
  refine wpAny_bind (wpAny_mono (wpE (wp_An (d := 800) (u := 8000) rfl (by show dd ≤ 800; omega) (by show u ≤ 8000; omega) (superC (D14.get (by (repeat (first | exact List.Mem.head _ | apply List.Mem.tail))))))) (fun v s' hx => ?_) fun _ _ x => x)
  obtain ⟨sp, h15, t15, rfl, rfl, D15⟩ := hx
  refine wpAny_bind (wpAny_holding ?_)
  refine superAttr (by omega) (by omega) (D15.keep _ _ (D14.get (by (repeat (first | exact List.Mem.head _ | apply List.Mem.tail))))) (D15.keep _ _ (D14.keep _ _ hsta)) (D15.get (.head _)) fun bm h16 t16 D16 => ?_
  refine wpAny_bind (wpAny_mono (wpE (wp_An (d := 800) (u := 8000) rfl (by show dd ≤ 800; omega) (by show u ≤ 8000; omega) (initSub (D16.keep _ _ (D15.keep _ _ (D14.get (by (repeat (first | exact List.Mem.head _ | apply List.Mem.tail)))))) (D16.get (.head _))))) (fun v s' hx => ?_) fun _ _ x => x)
  obtain ⟨h17, t17, rfl, D17⟩ := hx
  exact wpAny_pure (wpAny_pure (hq C N md h17 t17 (((D14.keeps D15.keep).keeps D16.keep).keeps D17.keep)))
end Mine
end
section
open PySem PySem.W PyProof.Rows PySem.W.X Mine
set_option Elab.async false
set_option maxRecDepth 100000
set_option maxHeartbeats 4000000
set_option linter.unusedVariables false
namespace Mine
local macro_rules | `(tactic| x_close) => `(tactic| (first | exact ⟨_, _, rfl, rfl, md_of_mem (by assumption)⟩ | exact ⟨_, _, rfl, rfl, Md.start _⟩))
theorem typeInit {prog : Program} {w : World} {h₀ : Heap} {g : Array GenState} {dr : Drawn} {t : Nat} {os : OsState} {C N T D : Addr} {t1 t2 tk : Nat}
  (hC : h₀.get? C = some (kCls N [.ref C, .type "object"] false ["obj"] #[some (.ref T), none, some (.str "K" t1), some (.str "cmp_to_key.<locals>.K" t2), some (.builtin "object.__new__"), some (.bool false)])) :
  wpAny (model prog w) (An 800 8000) (call (.builtin "type.__init__") [.ref C, .str "K" tk, .ref T, .ref D]) (fun v s' => ∃ h' t', v = .none ∧ s' = ⟨h', g, dr, t', os⟩ ∧ Md h₀ h' []) (fun _ _ => False) ⟨h₀, g, dr, t, os⟩ := by
  dsimp only [kCls] at hC
  x_run
theorem typeCallC {prog : Program} {w : World} {dd u : Nat} {E : Value → Shared → Prop} {h₀ : Heap} {g : Array GenState} {d : Drawn} {t : Nat} {os : OsState} {Q : Value → Shared → Prop}
  {T D S f0 f1 f2 f3 f4 f5 st : Addr} {n tk t1 t2 t3 t4 : Nat} {hh : Str → Int} {tt : Str → Nat}
  (hT : h₀.get? T = some { cls := .type "tuple", data := .seq #[.type "object"] 0 })
  (hS : h₀.get? S = some { cls := .type "list", data := .seq #[.str "obj" t4] 0 })
  (hD : h₀.get? D = some { cls := .type "dict", data := .dict (nsEnts hh tt t1 t2 t3 S f0 f1 f2 f3 f4 f5 st) n })
  (hDm : (D == sysModules) = false) {of0 of1 of2 of3 of4 of5 ost : Obj}
  (hf0 : h₀.get? f0 = some of0) (hc0 : of0.cls = .type "function") (hf1 : h₀.get? f1 = some of1) (hc1 : of1.cls = .type "function") (hf2 : h₀.get? f2 = some of2) (hc2 : of2.cls = .type "function")
  (hf3 : h₀.get? f3 = some of3) (hc3 : of3.cls = .type "function") (hf4 : h₀.get? f4 = some of4) (hc4 : of4.cls = .type "function") (hf5 : h₀.get? f5 = some of5) (hc5 : of5.cls = .type "function")
  (hst : h₀.get? st = some ost) (hcst : ost.cls = .type "tuple") (hdd : dd ≤ 590) (hu : u ≤ 5900)
  (hsta : h₀.get? cStatics = some { cls := .none, data := .dict #[] })
  (hq : ∀ C N md h' t', Md h₀ h' [(md, { cls := .type "member_descriptor", data := .fields #[.str "obj" t, .ref C, .builtin "proto.slot", .builtin "proto.slot#set", .int 0 0] }),
      (C, kCls N [.ref C, .type "object"] false ["obj"] #[some (.ref T), none, some (.str "K" tk), some (.str "cmp_to_key.<locals>.K" t2), some (.builtin "object.__new__"), some (.bool false)]),
      (N, dO (nsEnts2 hh tt t1 t3 S f0 f1 f2 f3 f4 f5 st [⟨reduceHash (w.params.strHash (Str.ofString "obj").cps), .str "obj" (t + 1), .ref md⟩, ⟨reduceHash (w.params.strHash (Str.ofString "__doc__").cps), .str "__doc__" (t + 1 + 1), .none⟩]) 3)] →
    Q (.ref C) ⟨h', g, d, t', os⟩) :
  codeAny (model prog w) (An dd u) (.call (.type "type") ⟨[.str "K" tk, .ref T, .ref D], []⟩) (fun r s' => match r with | .ok (.ret v) => Q v s' | .ok _ => False | .error e => E e s') ⟨h₀, g, d, t, os⟩ := by
  have c1 : mroOf (.type "type") = pure [.type "type", .type "object"] := by kernel_rfl
  have c2 : Bind.madeBy (.type "type") = pure (some "type.__new__") := by kernel_rfl
  refine codeAny_of_tree ?_
  show wpAny _ _ (callAny (.type "type") _) _ _ _
  refine wpAny_pure ⟨Code.quiet_builtin _ (by decide +kernel), codeAny_builtin (b := Builtin.«type.__call__») (entryFor_of_tree (by kernel_rfl)) ?_⟩
  refine wp_An (d := dd) (u := u + 1) rfl (by show dd + (Code.builtin "type.__call__" _).weight ≤ dd; rw [weight_type_call_type]; omega) (by show u + (Code.builtin "type.__call__" _).cUnits ≤ u + 1; rw [units_type_call_type]; omega) ?_
  unfold Builtin.«type.__call__»
  repeat (first
    | ((with_reducible show wpAny _ _ (call _ _ _) _ _ _); refine halt ?_)
    | ((with_reducible show wpAny _ _ (checkTypeCall _ _) _ _ _); refine wpAny_of_eq (a := ()) (by kernel_rfl) ?_)
    | wp_step
    | (with_reducible refine wpAny_ite_false (by kernel_rfl) ?_) | (with_reducible refine wpAny_ite_true (by kernel_rfl) ?_))
  refine ⟨?_⟩
  refine wpAny_call (codeAny_call_builtin (b := Builtin.«type.__new__») (by decide +kernel) (entryFor_of_tree (by kernel_rfl)) ?_)
  refine wpAny_of_eq (a := ()) (by kernel_rfl) ?_
  refine tn (dd := dd) (u := u + 1 + 1) hT hS hD hDm hf0 hc0 hf1 hc1 hf2 hc2 hf3 hc3 hf4 hc4 hf5 hc5 hst hcst (by omega) (by omega) hsta fun C N md h1 tA D1 => ?_
  show wpAny _ _ _ _ _ _
  refine wpAny_bind (k_isInst (a := C) (D1.get (by (repeat (first | exact List.Mem.head _ | apply List.Mem.tail)))) rfl (by kernel_rfl) ?_)
  refine wpAny_ite_false (by kernel_rfl) ?_
  have i1 : typeLookup (.type "type") "__init__" = pure (some (.builtin "type.__init__")) := by rw [typeLookup_type, builtinLookup_eq_fast]; kernel_rfl
  have i2 : typeOf (.builtin "type.__init__") = pure (.type "wrapper_descriptor") := by kernel_rfl
  refine wpAny_bind (wpAny_holding ?_)
  unfold callSpecial?
  refine wpAny_bind (k_special (a := C) (D1.get (by (repeat (first | exact List.Mem.head _ | apply List.Mem.tail)))) rfl i1 ?_)
  refine wpAny_holding ?_
  unfold bindSpecial
  refine wpAny_bind (wpAny_bind (wpAny_of_eq i2 ?_))
  refine wpAny_ite_true (by kernel_rfl) (wpAny_pure ?_)
  trace_state
  refine wpAny_bind (wpAny_mono (wpE (wp_An (d := 800) (u := 8000) rfl (by show dd ≤ 800; omega) (by show u + 1 ≤ 8000; omega) (typeInit (D1.get (by (repeat (first | exact List.Mem.head _ | apply List.Mem.tail))))))) (fun v s' hx => ?_) fun _ _ x => x)
  obtain ⟨h2, tB, rfl, rfl, D2⟩ := hx
  exact wpAny_pure (wpAny_ite_false (by kernel_rfl) (wpAny_pure (hq C N md h2 tB (D1.keeps D2.keep))))
end Mine
end
section
open PySem PySem.W PyProof.Rows PySem.W.X Mine
set_option Elab.async false
set_option maxRecDepth 100000
set_option maxHeartbeats 0
set_option linter.unusedVariables false
namespace Mine
theorem Md.toMk {h₀ h : Heap} {news : List (Addr × Obj)} (D : Md h₀ h news) : Mk h₀ h news :=
  ⟨D.keep, D.nw, List.Pairwise.imp (R := fun a b => a > b) (S := fun a b => a ≠ b) (fun h => Nat.ne_of_gt h) D.ord⟩
noncomputable def pick {α : Type} (d : α) (ks : List Str) (l : List α) (k : Str) : α := ((ks.zip l).lookup k).getD d
noncomputable abbrev kNames : List Str := ["__module__", "__qualname__", "__firstlineno__", "__slots__", "__init__", "__lt__", "__gt__", "__eq__", "__le__", "__ge__", "__hash__", "__static_attributes__"]
noncomputable def tyHk (w : World) (tk t1 t2 t3 : Nat) (T : Addr) (hh : Str → Int) (tt : Str → Nat) (S f0 f1 f2 f3 f4 f5 st : Addr) : Hk :=
  { nt := 3, nn := 3, res := fun _ av => .ok (.ret (.ref (av.getD 1 0))), upd := fun _ _ => [],
    news := fun tv av => [{ cls := .type "member_descriptor", data := .fields #[.str "obj" (tv.getD 0 0), .ref (av.getD 1 0), .builtin "proto.slot", .builtin "proto.slot#set", .int 0 0] },
      kCls (av.getD 2 0) [.ref (av.getD 1 0), .type "object"] false ["obj"] #[some (.ref T), none, some (.str "K" tk), some (.str "cmp_to_key.<locals>.K" t2), some (.builtin "object.__new__"), some (.bool false)],
      dO (nsEnts2 hh tt t1 t3 S f0 f1 f2 f3 f4 f5 st [⟨reduceHash (w.params.strHash (Str.ofString "obj").cps), .str "obj" (tv.getD 1 0), .ref (av.getD 0 0)⟩, ⟨reduceHash (w.params.strHash (Str.ofString "__doc__").cps), .str "__doc__" (tv.getD 2 0), .none⟩]) 3] }
noncomputable def szDict (o : Obj) : Nat := match o.data with
  | .dict e _ => e.toList.length
  | _ => 0
theorem dict_not (w : World) {h : Heap} {D : Addr} (hT : TopOf (ktA w) h) {o : Obj} (ho : h.get? D = some o) (hs : szDict o = 12) : (D == sysModules) = false := by
  cases e : D == sysModules with
  | false => rfl
  | true =>
    have e : D = sysModules := eq_of_beq e
    subst e
    have z := hT sysModules (((hz2.ktop_259 w.params).get sysModules).getD default) (by kernel_rfl)
    rw [ho] at z
    cases z
    have : szDict (((hz2.ktop_259 w.params).get sysModules).getD default) ≠ 12 := by
      have q : Nat.beq (szDict (((hz2.ktop_259 w.params).get sysModules).getD default)) 12 = false := by kernel_rfl
      exact Nat.ne_of_beq_eq_false q
    exact absurd hs this
noncomputable abbrev asC (c : String) (o : Obj) : Obj := { o with cls := .type c }
theorem type_spec (w : World) (tk t1 t2 t3 t4 nd : Nat) (T D S f0 f1 f2 f3 f4 f5 st : Addr) (hh : Str → Int) (tt : Str → Nat) (o0 o1 o2 o3 o4 o5 ot : Obj) :
    SpecC pr w (ktA w) 111 1 590 5900 (.call (.type "type") ⟨[.str "K" tk, .ref T, .ref D], []⟩) [T, D, S, f0, f1, f2, f3, f4, f5, st]
      [{ cls := .type "tuple", data := .seq #[.type "object"] 0 }, { cls := .type "dict", data := .dict (nsEnts hh tt t1 t2 t3 S f0 f1 f2 f3 f4 f5 st) nd }, { cls := .type "list", data := .seq #[.str "obj" t4] 0 }, asC "function" o0, asC "function" o1, asC "function" o2, asC "function" o3, asC "function" o4, asC "function" o5, asC "tuple" ot]
      (tyHk w tk t1 t2 t3 T hh tt S f0 f1 f2 f3 f4 f5 st) := by
  refine spec_mk (fun _ _ => rfl) fun h g d t os hT ht hg he => ?_
  have gD : h.get? D = some { cls := .type "dict", data := .dict (nsEnts hh tt t1 t2 t3 S f0 f1 f2 f3 f4 f5 st) nd } := hg 1 D _ rfl rfl
  have hDm := dict_not w hT gD rfl
  refine codeAny_mono (typeCallC (E := fun _ _ => False) (Q := fun v s' => ∃ h' t' news, s' = ⟨h', g, d, t', os⟩ ∧ news.length = 3 ∧ Mk h h' news ∧ v = .ref ((news.map (·.1)).getD 1 0) ∧ news.map (·.2) = (tyHk w tk t1 t2 t3 T hh tt S f0 f1 f2 f3 f4 f5 st).news [t, t + 1, t + 1 + 1] (news.map (·.1))) (hg 0 T _ rfl rfl) (hg 2 S _ rfl rfl) gD hDm (hg 3 f0 _ rfl rfl) rfl (hg 4 f1 _ rfl rfl) rfl (hg 5 f2 _ rfl rfl) rfl (hg 6 f3 _ rfl rfl) rfl (hg 7 f4 _ rfl rfl) rfl (hg 8 f5 _ rfl rfl) rfl (hg 9 st _ rfl rfl) rfl (Nat.le_refl _) (Nat.le_refl _) ((hT cStatics _ (show (ktA w).get cStatics = some (((hz2.ktop_259 w.params).get cStatics).getD default) by kernel_rfl)).trans (by kernel_rfl)) fun C N md h' t' D => ?_) fun r s' x => ?_
  · exact ⟨h', t', _, rfl, rfl, D.toMk, rfl, by kernel_rfl⟩
  · cases r with
    | error e => exact x.elim
    | ok f =>
      cases f with
      | ret v =>
        obtain ⟨h', t', news, hs, hl, hm, hv, hn⟩ := x
        subst hv
        refine ⟨h', t', [t, t + 1, t + 1 + 1], news, hs, rfl, hl, fun x hx => ?_, hm, rfl, hn⟩
        rcases List.mem_cons.mp hx with rfl | hx
        · exact ht
        · rcases List.mem_cons.mp hx with rfl | hx
          · exact Nat.le_add_left 1 _
          · rcases List.mem_cons.mp hx with rfl | hx
            · exact Nat.le_add_left 1 _
            · exact nomatch hx
      | _ => exact x.elim
noncomputable def enR (o : Obj) (i : Nat) : Addr := refA (enAt o i).val
noncomputable def tyMore (l : List Obj) : List Addr := [enR (oAt l 1) 3, enR (oAt l 1) 4, enR (oAt l 1) 5, enR (oAt l 1) 6, enR (oAt l 1) 7, enR (oAt l 1) 8, enR (oAt l 1) 9, enR (oAt l 1) 11]
noncomputable def tyHh (o : Obj) : Str → Int := pick 0 kNames ((List.range 12).map fun i => (enAt o i).hash)
noncomputable def tyTt (o : Obj) : Str → Nat := pick 0 kNames ((List.range 12).map fun i => keyTok (enAt o i))
noncomputable def selTy (c : Code) : Bool := match c with
  | .call (.type s) a => match Nat.beq (PySem.W.S.codeS s) 1718712949 with
    | true => Nat.beq a.pos.length 3
    | false => false
  | _ => false
noncomputable def tyG (w : World) (c : Code) : GH :=
  { needs := [refA (pA (cA c) 1), refA (pA (cA c) 2)], more := [tyMore],
    code := fun l => .call (.type "type") ⟨[.str "K" (tokOf (pA (cA c) 0)), .ref (refA (pA (cA c) 1)), .ref (refA (pA (cA c) 2))], []⟩,
    objs := fun l => [{ cls := .type "tuple", data := .seq #[.type "object"] 0 }, { cls := .type "dict", data := .dict (nsEnts (tyHh (oAt l 1)) (tyTt (oAt l 1)) (tokOf (enAt (oAt l 1) 0).val) (tokOf (enAt (oAt l 1) 1).val) (tokOf (enAt (oAt l 1) 2).val) (enR (oAt l 1) 3) (enR (oAt l 1) 4) (enR (oAt l 1) 5) (enR (oAt l 1) 6) (enR (oAt l 1) 7) (enR (oAt l 1) 8) (enR (oAt l 1) 9) (enR (oAt l 1) 11)) (dEp (oAt l 1)) },
      { cls := .type "list", data := .seq #[.str "obj" (tokOf ((sqAt (oAt l 2)).getD 0 .none))] 0 }, asC "function" (oAt l 3), asC "function" (oAt l 4), asC "function" (oAt l 5), asC "function" (oAt l 6), asC "function" (oAt l 7), asC "function" (oAt l 8), asC "tuple" (oAt l 9)],
    hk := fun l => tyHk w (tokOf (pA (cA c) 0)) (tokOf (enAt (oAt l 1) 0).val) (tokOf (enAt (oAt l 1) 1).val) (tokOf (enAt (oAt l 1) 2).val) (refA (pA (cA c) 1)) (tyHh (oAt l 1)) (tyTt (oAt l 1)) (enR (oAt l 1) 3) (enR (oAt l 1) 4) (enR (oAt l 1) 5) (enR (oAt l 1) 6) (enR (oAt l 1) 7) (enR (oAt l 1) 8) (enR (oAt l 1) 9) (enR (oAt l 1) 11) }
noncomputable def tyHook (w : World) : Code → Option Hr := cHook selTy (tyG w)
theorem ty_hook (w : World) : HookS pr w (ktA w) 111 1 590 5900 (tyHook w) := cHook_n 10 (fun _ _ => rfl) fun _ _ _ => type_spec w _ _ _ _ _ _ _ _ _ _ _ _ _ _ _ _ _ _ _ _ _ _ _ _ _
end Mine
end
section
open PySem PySem.W PyProof.Rows PySem.W.X Mine
set_option Elab.async false
set_option maxRecDepth 100000
set_option maxHeartbeats 0
set_option linter.unusedVariables false
namespace Mine
noncomputable def fdOf (o : Option Obj) : FuncData := match o with
  | some o => match o.data with
    | .func fd => fd
    | _ => default
  | none => default
noncomputable def ctkFd (w : World) : FuncData := fdOf ((ktA w).get 21)
noncomputable def ctkBody (w : World) : List Stmt := match (ctkFd w).body with
  | .stmts b => b
  | _ => []
noncomputable def cBases (w : World) : List PySem.Expr := match ctkBody w with
  | .ClassDef _ b _ _ _ _ _ _ _ _ _ :: _ => b
  | _ => []
noncomputable def cBody (w : World) : List Stmt := match ctkBody w with
  | .ClassDef _ _ _ b _ _ _ _ _ _ _ :: _ => b
  | _ => []
noncomputable def cScope (w : World) : Scope := match ctkBody w with
  | .ClassDef _ _ _ _ _ _ sc _ _ _ _ :: _ => sc
  | _ => default
noncomputable def cStat (w : World) : List Str := match ctkBody w with
  | .ClassDef _ _ _ _ _ _ _ _ _ st _ :: _ => st
  | _ => []
noncomputable def cPos (w : World) : Pos := match ctkBody w with
  | .ClassDef _ _ _ _ _ _ _ _ _ _ p :: _ => p
  | _ => default
noncomputable def cRet (w : World) : Stmt := match ctkBody w with
  | _ :: r :: _ => r
  | _ => default
noncomputable abbrev sK : Str := ⟨#[75]⟩
theorem ctkBody_eq (w : World) : ctkBody w = [.ClassDef sK (cBases w) [] (cBody w) [] [] (cScope w) none sK (cStat w) (cPos w), cRet w] := by kernel_rfl
noncomputable abbrev sMycmp : Str := ⟨#[109, 121, 99, 109, 112]⟩
noncomputable def envC (w : World) (L cell : Addr) : Env :=
  { scope := (ctkFd w).scope, locals := L, globals := (ctkFd w).globals, cells := [(sMycmp, cell)], qual := (ctkFd w).qualname ++ ".<locals>.", func := some 21, code := (ctkFd w).code, frame := some L, builtins := (ctkFd w).builtins }
noncomputable def clsOrc : List Nat := [9, 9, 11, 0, 5, 5, 5, 5, 0, 0, 0, 0, 11, 11, 0, 11, 11, 11, 11, 11, 11, 11, 11, 11, 11, 11, 11, 11, 11, 11, 17, 15, 15, 15, 15, 0, 0, 0, 11, 11, 11, 17, 15, 15, 15, 15, 0, 0, 0, 11, 11, 11, 17, 15, 15, 15, 15, 0, 0, 0, 11, 11, 11, 17, 15, 15, 15, 15, 0, 0, 0, 11, 11, 11, 17, 15, 15, 15, 15, 0, 0, 0, 11, 11, 11, 17, 15, 15, 15, 15, 0, 0, 0, 11, 11, 11, 11, 11, 11, 11, 11, 11, 7, 11, 21, 35, 51, 67, 83, 99, 115, 117]
noncomputable abbrev fr0 : Obj := { cls := .type "frame", data := .dict #[] }
noncomputable def tabA (w : World) : Obj := ((hz2.ktop_259 w.params).get 16).getD default
noncomputable def ledC (w : World) (L cell f : Addr) : List (Addr × Obj) := [(L, fr0), (cell, { cls := .type "cell", data := .cell (some (.ref f)) }), (16, tabA w)]
noncomputable def clsTree (w : World) (L cell : Addr) : Sem Value := (clsT sK (qualnameIn (envC w L cell) sK sK) [.type "object"] [] (cBody w) (cScope w) (cStat w) (firstLineOf [] (cPos w)) (envC w L cell) (cPos w)).1 enterFrameZ
noncomputable def clsOut (w : World) (L cell f : Addr) (tv av : List Nat) : SOut :=
  refOut pr w (ktA w) (ledC w L cell f) 580 5800 590 5900 (tyHook w) clsOrc 100000 (clsTree w L cell) encV (nth av 3) (nth tv 0)
noncomputable def clsNews (w : World) (L cell f : Addr) (tv av : List Nat) : List Obj := (List.range' 3 59).map (refObj (clsOut w L cell f tv av))
noncomputable def clsUpd (w : World) (L cell f : Addr) (tv av : List Nat) : List Obj := [fr0, { cls := .type "cell", data := .cell (some (.ref f)) }, refObj (clsOut w L cell f tv av) 2]
noncomputable def frK (w : World) (C : Addr) (tk : Nat) : Obj := { cls := .type "frame", data := .dict #[⟨PySem.W.ZFast.zw12210062019545310541 (w.params.strHash sK.cps), .str sK tk, .ref C⟩] 1 }
noncomputable def encF (f : Flow) : PySem.Fin := .done f
theorem encF_inj (a b : Flow) (h : encF a = encF b) : a = b := by cases h; rfl
theorem class_made {w : World} {h₀ h : Heap} {g : Array GenState} {d : Drawn} {os : OsState} {t : Nat} {L cell f : Addr} {Q : Flow → Shared → Prop} {E : Value → Shared → Prop}
    (D : Lg [16] h₀ h [(L, fr0), (cell, { cls := .type "cell", data := .cell (some (.ref f)) }), (16, tabA w)]) (hT : TopOf (ktA w) h) (hn : 111 ≤ h₀.objs.size) (ht : 1 ≤ t)
    (hq : ∀ h' t' tk tv av, tv.length = 76 → av.length = 59 → Lg [16] h₀ h' ((L, frK w (av.getD 57 0) tk) :: (cell, { cls := .type "cell", data := .cell (some (.ref f)) }) :: (16, refObj (clsOut w L cell f tv av) 2) :: av.zip (clsNews w L cell f tv av)) → TopOf (ktA w) h' → 1 ≤ t' → (∀ x ∈ tv ++ [tk], 1 ≤ x) → Q (.ret (.ref (av.getD 57 0))) ⟨h', g, d, t', os⟩) :
    wpAny (model pr w) (An 580 5800) (execs (ctkBody w) (envC w L cell)) Q E ⟨h, g, d, t, os⟩ := by
  rw [ctkBody_eq]
  refine wpAny_execs_cons ?_
  rw [arm_exec_ClassDef]
  refine wpAny_bind (wpAny_pure (a := []) ?_)
  refine wpAny_bind (wpAny_standAt ?_)
  rw [PySem.W.ZFast.ze14857818083647630748]
  refine wpAny_bind ?_
  have hx : ∀ a ∈ [16], (ktA w).get a = none := fun a ha => by cases List.mem_singleton.mp ha; kernel_rfl
  refine led_n0 encU 1000 [0] [] [] (fun _ _ => ()) (fun _ _ => []) D hT hn (ktA_bound w) hx ht encU_inj rfl (fun _ _ => rfl) List.nodup_nil rfl (orc0 (by kernel_rfl)) fun h1 t1 tv av _ _ D1 hT1 ht1 _ => ?_
  refine wpAny_bind (wpAny_holding ?_)
  rw [PySem.W.ZFast.ze5911215902649259669, PySem.W.ZFast.ze4897270859577272712, PySem.W.ZFast.ze13897175071876407860]
  refine wpAny_bind ?_
  replace D1 := D1
  rw [show av.zip ([] : List Obj) = [] by cases av <;> rfl, List.append_nil] at D1
  refine led_n0 encA 1000 [0, 0] [] [] (fun _ _ => ⟨[.type "object"], []⟩) (fun _ _ => []) D1 hT1 hn (ktA_bound w) hx ht1 encA_inj rfl (fun _ _ => rfl) List.nodup_nil rfl (orc0 (by kernel_rfl)) fun h2 t2 tv av _ _ D2 hT2 ht2 _ => ?_
  rw [show av.zip ([] : List Obj) = [] by cases av <;> rfl, List.append_nil] at D2
  clear D1 hT1
  refine wpAny_bind (wpAny_standAt ?_)
  refine wpAny_holding ?_
  refine (clsT_R (by decide) _ _ _ _ _ _ _ _ _ _).wp ?_
  refine led_go (dm := 590) (um := 5900) (hook := tyHook w) encV 100000 clsOrc (List.range' 3 59) (List.range 76) (fun _ av => .ref (av.getD 57 0)) (clsUpd w L cell f) (clsNews w L cell f) D2 hT2 hn (ktA_bound w) hx ht2 encV_inj (ty_hook w) rfl (fun _ _ => rfl) (fun _ _ => rfl) (by decide) rfl (orc8 (by kernel_rfl)) fun h3 t3 tv av htv hav D3 hT3 ht3 htk => ?_
  have mL : (L, fr0) ∈ (keysOf (ledC w L cell f)).zip (clsUpd w L cell f tv av) ++ av.zip (clsNews w L cell f tv av) := .head _
  have D4 := D3.one mL
  have hn3 : 111 ≤ h3.objs.size := Nat.le_trans hn D3.size
  have hxL : ∀ a ∈ [L], (ktA w).get a = none := fun a ha => by
    cases List.mem_singleton.mp ha
    rcases D3.ge _ mL with q | q
    · exact hx _ q
    · exact ktBound_none (ktA_bound w) (Nat.le_trans hn q)
  refine wpAny_bind (wpAny_pure (a := Value.ref (av.getD 57 0)) ?_)
  refine wpAny_bind (wpAny_standAt ?_)
  rw [PySem.W.ZFast.ze7536695828754713326]
  refine wpAny_bind ?_
  refine led_g0 encU 1000 [1, 1] [] [0] (fun _ _ => ()) (fun tv _ => [frK w (av.getD 57 0) (tv.getD 0 0)]) (fun _ _ => []) D4 hT3 hn3 (ktA_bound w) hxL ht3 encU_inj rfl (fun _ _ => rfl) (fun _ _ => rfl) List.nodup_nil rfl (orc0 (by kernel_rfl)) fun h4 t4 tv4 av4 ht4' hav4 D5 hT4 ht4 htk4 => ?_
  rw [show av4 = [] from List.length_eq_zero_iff.mp hav4] at D5
  replace D5 : Lg [L] h3 h4 [(L, frK w (av.getD 57 0) (tv4.getD 0 0))] := D5
  refine wpAny_pure ?_
  show wpAny _ _ (execs [cRet w] (envC w L cell)) _ _ _
  rw [PySem.W.ZFast.ze12563942051412417395]
  refine led_g0 encF 1000 [1] [] [] (fun _ _ => .ret (.ref (av.getD 57 0))) (fun tv _ => [frK w (av.getD 57 0) (tv4.getD 0 0)]) (fun _ _ => []) (D5.one (.head _)) hT4 (Nat.le_trans hn3 D5.size) (ktA_bound w) hxL ht4 encF_inj rfl (fun _ _ => rfl) (fun _ _ => rfl) List.nodup_nil rfl (orc0 (by kernel_rfl)) fun h5 t5 tv5 av5 _ hav5 D6 hT5 ht5 _ => ?_
  rw [show av5 = [] from List.length_eq_zero_iff.mp hav5] at D6
  replace D6 : Lg [L] h4 h5 [(L, frK w (av.getD 57 0) (tv4.getD 0 0))] := D6
  refine hq h5 t5 (tv4.getD 0 0) tv av htv hav ?_ hT5 ht5 fun x hx => ?_
  rotate_left
  · rcases List.mem_append.mp hx with q | q
    · exact htk x q
    · obtain ⟨y, rfl⟩ := List.length_eq_one_iff.mp ht4'
      exact htk4 x q
  exact Lg.head (Lg.head (show Lg [16] h₀ h3 ((L, fr0) :: (cell, { cls := .type "cell", data := .cell (some (.ref f)) }) :: (16, refObj (clsOut w L cell f tv av) 2) :: av.zip (clsNews w L cell f tv av)) from D3) D5) D6
end Mine
end
section
open PySem PySem.W PyProof.Rows PySem.W.X Mine
set_option Elab.async false
set_option maxRecDepth 100000
set_option maxHeartbeats 0
set_option linter.unusedVariables false
namespace Mine
noncomputable def encI (f : PySem.Fin) : PySem.Fin := f
theorem encI_inj (a b : PySem.Fin) (h : encI a = encI b) : a = b := h
noncomputable def hkCtk (w : World) (f : Addr) : Hk :=
  { nt := 77, nn := 61, res := fun _ av => .ok (.ret (.ref (av.getD 59 0))),
    news := fun tv av => frK w (av.getD 59 0) (tv.getD 76 0) :: { cls := .type "cell", data := .cell (some (.ref f)) } :: clsNews w (av.getD 0 0) (av.getD 1 0) f (tv.take 76) (av.drop 2),
    upd := fun tv av => [refObj (clsOut w (av.getD 0 0) (av.getD 1 0) f (tv.take 76) (av.drop 2)) 2] }
theorem ctk_spec (w : World) (f : Addr) : SpecC pr w (ktA w) 111 1 570 5700 (.call (.ref 21) ⟨[.ref f], []⟩) [16] [tabA w] (hkCtk w f) := by
  intro A h g d t os h1 h2 h3 hT hn ht hg _ _ _ _
  refine code_An (d := 570) (u := 5700) h1 h2 h3 ?_
  refine codeAny_of_tree ?_
  refine wp_An (d := 575) (u := 5750) rfl (Nat.le_of_ble_eq_true (by kernel_rfl)) (Nat.le_of_ble_eq_true (by kernel_rfl)) ?_
  have L0 : Lg [16] h h [(16, tabA w)] := ⟨Nat.le_refl _, fun _ _ e _ => e, fun p hp => by cases List.mem_singleton.mp hp; exact hg 0 16 _ rfl rfl, by simp [keysOf], fun p hp => .inl (by cases List.mem_singleton.mp hp; exact .head _)⟩
  have hx : ∀ a ∈ [16], (ktA w).get a = none := fun a ha => by cases List.mem_singleton.mp ha; kernel_rfl
  suffices key : wpAny (model pr w) (An 575 5750) (callZ 21 ⟨[.ref f], []⟩) _ _ _ from fun Γ p hΓ => callZ_sound hΓ (by decide) (key Γ p hΓ)
  refine led_g0 encI 1000 [0, 0, 5, 5, 0] [1, 2] [] (fun _ av => .again (.func (ctkBody w) (envC w (av.getD 0 0) (av.getD 1 0)))) (fun _ _ => [tabA w]) (fun _ _ => [fr0, { cls := .type "cell", data := .cell (some (.ref f)) }]) L0 hT hn (ktA_bound w) hx ht encI_inj rfl (fun _ _ => rfl) (fun _ _ => rfl) (by decide) rfl (orc0 (by kernel_rfl)) fun h1 t1 tv av _ hav D1 hT1 ht1 _ => ?_
  obtain ⟨L, cell, rfl⟩ : ∃ L cell, av = [L, cell] := by
    match av, hav with
    | [a, b], _ => exact ⟨a, b, rfl⟩
  replace D1 : Lg [16] h h1 [(16, tabA w), (L, fr0), (cell, { cls := .type "cell", data := .cell (some (.ref f)) })] := D1
  refine ⟨rfl, ?_⟩
  refine codeAny_func ?_
  refine wp_An (d := 580) (u := 5800) rfl (Nat.le_of_ble_eq_true (by kernel_rfl)) (Nat.le_of_ble_eq_true (by kernel_rfl)) ?_
  have D2 : Lg [16] h h1 [(L, fr0), (cell, { cls := .type "cell", data := .cell (some (.ref f)) }), (16, tabA w)] := D1.sub (fun p hp => by
    simp only [List.mem_cons, List.not_mem_nil, or_false] at hp ⊢
    rcases hp with rfl | rfl | rfl
    · exact .inr (.inl rfl)
    · exact .inr (.inr rfl)
    · exact .inl rfl) (by
    have nd := D1.nd
    simp only [keysOf, List.map_cons, List.map_nil, List.nodup_cons, List.mem_cons, List.not_mem_nil, or_false, not_or, List.nodup_nil, and_true, not_false_eq_true] at nd ⊢
    obtain ⟨⟨a1, a2⟩, a3⟩ := nd
    exact ⟨⟨a3, fun e => a1 e.symm⟩, fun e => a2 e.symm⟩)
  refine class_made D2 hT1 hn ht1 fun h' t' tk tv av htv hav D hT' ht' hge => ?_
  have e1 : (L :: cell :: av).getD 59 0 = av.getD 57 0 := rfl
  have e2 : (tv ++ [tk]).getD 76 0 = tk := by
    rw [List.getD_eq_getElem?_getD, List.getElem?_append_right (by omega), htv]
    rfl
  refine ⟨h', t', tv ++ [tk], L :: cell :: av, rfl, ht', by rw [List.length_append, htv]; rfl, by rw [List.length_cons, List.length_cons, hav]; rfl, hge, rfl, ?_⟩
  have e3 : (tv ++ [tk]).take 76 = tv := by rw [← show tv.length = 76 from htv, List.take_left]
  show After h h' [16] [refObj (clsOut w L cell f ((tv ++ [tk]).take 76) av) 2] (frK w (av.getD 57 0) ((tv ++ [tk]).getD 76 0) :: { cls := .type "cell", data := .cell (some (.ref f)) } :: clsNews w L cell f ((tv ++ [tk]).take 76) av) (L :: cell :: av)
  rw [e3, e2]
  refine Lg.after (D.perm (l' := _) ?_) rfl ?_
  · show ((16, refObj (clsOut w L cell f tv av) 2) :: (L, frK w (av.getD 57 0) tk) :: (cell, _) :: av.zip (clsNews w L cell f tv av)).Perm _
    exact List.Perm.symm ((List.Perm.cons _ (List.Perm.swap _ _ _)).trans (List.Perm.swap _ _ _))
  · show (clsNews w L cell f tv av).length + 2 = av.length + 2
    rw [hav, clsNews, List.length_map]
    rfl
end Mine
end
section
open PySem PySem.W PyProof.Rows PySem.W.X Mine
set_option Elab.async false
set_option maxRecDepth 100000
set_option maxHeartbeats 0
set_option linter.unusedVariables false
namespace Mine
noncomputable def fdK (w : World) (i : Nat) (q : Str) (cd bi : Addr) (cl : List (Str × Addr)) (pm ct : Value) : FuncData := match (cBody w)[i]? with
  | some (.FunctionDef name params body _ _ _ scope _ _ _) => { name, qualname := q, params, body := .stmts body, scope, globals := (ctkFd w).globals, closure := cl, defaults := .none, kwdefaults := .none, doc := .none, pyModule := pm, code := .ref cd, closureTuple := ct, builtins := bi }
  | _ => default
noncomputable abbrev fnO (fd : FuncData) : Obj := { cls := .type "function", data := .func fd }
noncomputable abbrev coO (v0 : Value) (q : Str) (tq : Nat) (rest : List Value) : Obj := { cls := .type "code", data := .fields ⟨v0 :: .str q tq :: rest⟩ }
noncomputable abbrev insO (C : Addr) (dd : Option Addr) (x : Array (Option Value)) : Obj := { cls := .ref C, dict := dd, data := .plain, slots := x }
noncomputable abbrev clsO (N C : Addr) (sl : Array (Option Value)) : Obj := kCls N [.ref C, .type "object"] false ["obj"] sl
noncomputable abbrev nsO (hh : Str → Int) (tt : Str → Nat) (t1 t3 : Nat) (S f0 f1 f2 f3 f4 f5 st md : Addr) (h1 h2 : Int) (k1 k2 : Nat) : Obj := dO (nsEnts2 hh tt t1 t3 S f0 f1 f2 f3 f4 f5 st [⟨h1, .str "obj" k1, .ref md⟩, ⟨h2, .str "__doc__" k2, .none⟩]) 3
noncomputable abbrev mdO (C : Addr) (tm : Nat) : Obj := { cls := .type "member_descriptor", data := .fields #[.str "obj" tm, .ref C, .builtin "proto.slot", .builtin "proto.slot#set", .int 0 0] }
noncomputable abbrev cellO (f : Addr) : Obj := { cls := .type "cell", data := .cell (some (.ref f)) }
section
variable {prog : Program} {w : World} {A : Around} {E : Value → Shared → Prop} {h₀ h : Heap} {g : Array GenState} {d : Drawn} {t : Nat} {os : OsState}
theorem k_isInstC {x C : Addr} {o oC : Obj} {c : ClassData} {Q : Bool → Shared → Prop} (ho : h.get? x = some o) (hc : o.cls = .ref C) (hC : h.get? C = some oC) (hd : oC.data = .cls c) (hm : c.mro = [.ref C, .type "object"])
    (hq : Q true ⟨h, g, d, t, os⟩) : wpAny (model prog w) A (isInstance (.ref x) (.ref C)) Q E ⟨h, g, d, t, os⟩ := by
  unfold isInstance
  refine wpAny_bind (wpAny_bind (wpAny_loadPart' ho (wpAny_pure ?_)))
  rw [hc]
  unfold isSubtype
  refine wpAny_bind (k_mroC hC hd ?_)
  rw [hm]
  have e : List.contains [Value.ref C, .type "object"] (.ref C) = true := by simp
  refine wpAny_ite_false (by rfl) (wpAny_pure ?_)
  rw [e]
  exact hq
end
theorem Lg.init {needs : List Addr} {objs : List Obj} {h : Heap} (hg : ∀ (i : Nat) a o, needs[i]? = some a → objs[i]? = some o → h.get? a = some o) (hl : objs.length = needs.length) (hnd : needs.Nodup) : Lg needs h h (needs.zip objs) := by
  have hk : keysOf (needs.zip objs) = needs := by
    unfold keysOf
    exact List.map_fst_zip (by rw [hl]; exact Nat.le_refl _)
  refine ⟨Nat.le_refl _, fun _ _ e _ => e, fun p hp => ?_, by rw [hk]; exact hnd, fun p hp => ?_⟩
  · obtain ⟨i, hi⟩ := List.getElem?_of_mem hp
    rw [List.getElem?_zip_eq_some] at hi
    exact hg i _ _ hi.1 hi.2
  · exact .inl (hk ▸ List.mem_map_of_mem hp)
noncomputable def hkVal (v : Value) (objs : List Obj) : Hk := { nt := 0, nn := 0, res := fun _ _ => .ok (.ret v), news := fun _ _ => [], upd := fun _ _ => objs }
theorem pslot_spec (w : World) (md x C N : Addr) (tm : Nat) (dd : Option Addr) (v : Value) (sl : Array (Option Value)) :
    SpecC pr w (ktA w) 111 1 800 8000 (.builtin "proto.slot" ⟨[.ref x, .ref md], []⟩) [md, x, C] [mdO C tm, insO C dd #[some v], clsO N C sl] (hkVal v [mdO C tm, insO C dd #[some v], clsO N C sl]) := by
  exact spec_run (dmh := 0) (umh := 0) (hook := fun _ => none) 1000 [1, 1, 3, 5, 3] [] [] (ktA_bound w) HookS.none rfl rfl (fun _ _ => rfl) rfl rfl List.nodup_nil (orc0 (by kernel_rfl))
theorem pslotset_spec (w : World) (md x C N : Addr) (tm : Nat) (dd : Option Addr) (v : Value) (sl : Array (Option Value)) :
    SpecC pr w (ktA w) 111 1 800 8000 (.builtin "proto.slot#set" ⟨[.ref x, v, .ref md], []⟩) [md, x, C] [mdO C tm, insO C dd #[], clsO N C sl] (hkVal .none [mdO C tm, insO C dd #[some v], clsO N C sl]) := by
  exact spec_run (dmh := 0) (umh := 0) (hook := fun _ => none) 1000 [1, 1, 3, 5, 3] [] [] (ktA_bound w) HookS.none rfl rfl (fun _ _ => rfl) rfl rfl List.nodup_nil (orc0 (by kernel_rfl))
theorem SpecC.go {prog : Program} {w : World} {kt : KT} {n₀ t₁ dm um : Nat} {c : Code} {needs : List Addr} {objs : List Obj} {σ : Hk} (S : SpecC prog w kt n₀ t₁ dm um c needs objs σ) {A : Around} {h : Heap} {g : Array GenState} {d : Drawn} {t : Nat} {os : OsState} {R : Result → Shared → Prop}
    (h1 : A.handled = none) (h2 : A.depth ≤ dm) (h3 : A.units ≤ um) (hT : TopOf kt h) (hn : n₀ ≤ h.objs.size) (ht : t₁ ≤ t) (hg : ∀ (i : Nat) a o, needs[i]? = some a → objs[i]? = some o → h.get? a = some o) (hl : objs.length = needs.length) (he : ∀ e ∈ σ.eqs, e.1 = e.2) (hnd : needs.Nodup) (hf : ∀ a ∈ needs, kt.get a = none)
    (hR : ∀ h' t' tv av, t₁ ≤ t' → tv.length = σ.nt → av.length = σ.nn → (∀ x ∈ tv, t₁ ≤ x) → After h h' needs (σ.upd tv av) (σ.news tv av) av → R (σ.res tv av) ⟨h', g, d, t', os⟩) : codeAny (model prog w) A c R ⟨h, g, d, t, os⟩ :=
  codeAny_mono (S A h g d t os h1 h2 h3 hT hn ht hg hl he hnd hf) fun r s' x => by
    obtain ⟨h', t', tv, av, rfl, a1, a2, a3, a4, rfl, a5⟩ := x
    exact hR h' t' tv av a1 a2 a3 a4 a5
theorem mdget_spec (w : World) (md x C N : Addr) (tm : Nat) (dd : Option Addr) (v : Value) (sl : Array (Option Value)) :
    SpecC pr w (ktA w) 111 1 750 7500 (.builtin "member_descriptor.__get__" ⟨[.ref md, .ref x, .ref C], []⟩) [md, x, C] [mdO C tm, insO C dd #[some v], clsO N C sl] (hkVal v [mdO C tm, insO C dd #[some v], clsO N C sl]) := by
  intro A h g d t os h1 h2 h3 hT hn ht hg hl he hnd hf
  have gm := hg 0 md _ rfl rfl
  have gx := hg 1 x _ rfl rfl
  have gC := hg 2 C _ rfl rfl
  refine codeAny_builtin (b := Builtin.«member_descriptor.__get__») (entryFor_of_tree (by kernel_rfl)) ?_
  rw [Around.under_plainId (by decide +kernel) _]
  show wpAny _ A.in1 (Builtin.Getset_descriptor.descrGet ⟨[.ref md, .ref x, .ref C], []⟩) _ _ _
  unfold Builtin.Getset_descriptor.descrGet Builtin.Getset_descriptor.descrGetArgs
  repeat (first
    | ((with_reducible show wpAny _ _ (Builtin.Getset_descriptor.descrGetter _ _) _ _ _); refine halt ?_)
    | wp_step
    | (with_reducible refine wpAny_ite_false (by kernel_rfl) ?_) | (with_reducible refine wpAny_ite_true (by kernel_rfl) ?_))
  refine ⟨?_⟩
  show wpAny _ _ (Builtin.Getset_descriptor.descrGetter (.ref md) (some (.ref x))) _ _ _
  unfold Builtin.Getset_descriptor.descrGetter Builtin.Getset_descriptor.descrCheckInstance Builtin.Getset_descriptor.descrNameAndClass Builtin.Getset_descriptor.descrItself
  repeat (first
    | ((with_reducible show wpAny _ _ (field _ _) _ _ _); refine wpAny_field gm rfl rfl ?_)
    | ((with_reducible show wpAny _ _ (isInstance _ _) _ _ _); refine k_isInstC gx rfl gC rfl rfl ?_)
    | ((with_reducible show wpAny _ _ (fieldsOf _) _ _ _); refine wpAny_fieldsOf gm rfl ?_)
    | ((with_reducible show wpAny _ _ (again _) _ _ _); refine halt ?_)
    | wp_step
    | (with_reducible refine wpAny_ite_false (by kernel_rfl) ?_) | (with_reducible refine wpAny_ite_true (by kernel_rfl) ?_))
  refine ⟨?_⟩
  refine wpAny_pure ⟨plainId_quiet (by decide +kernel) _, ?_⟩
  exact pslot_spec w md x C N tm dd v sl A h g d t os h1 (by omega) (by omega) hT hn ht hg hl he hnd hf
theorem mdset_spec (w : World) (md x C N : Addr) (tm : Nat) (dd : Option Addr) (v : Value) (sl : Array (Option Value)) :
    SpecC pr w (ktA w) 111 1 750 7500 (.builtin "member_descriptor.__set__" ⟨[.ref md, .ref x, v], []⟩) [md, x, C] [mdO C tm, insO C dd #[], clsO N C sl] (hkVal .none [mdO C tm, insO C dd #[some v], clsO N C sl]) := by
  intro A h g d t os h1 h2 h3 hT hn ht hg hl he hnd hf
  have gm := hg 0 md _ rfl rfl
  have gx := hg 1 x _ rfl rfl
  have gC := hg 2 C _ rfl rfl
  refine codeAny_builtin (b := Builtin.«member_descriptor.__set__») (entryFor_of_tree (by kernel_rfl)) ?_
  rw [Around.under_plainId (by decide +kernel) _]
  show wpAny _ A.in1 (Builtin.Getset_descriptor.descrSet "member" ⟨[.ref md, .ref x, v], []⟩) _ _ _
  unfold Builtin.Getset_descriptor.descrSet
  repeat (first
    | ((with_reducible show wpAny _ _ (Builtin.Getset_descriptor.descrStoreThrough _ _ _ _) _ _ _); refine halt ?_)
    | wp_step
    | (with_reducible refine wpAny_ite_false (by kernel_rfl) ?_) | (with_reducible refine wpAny_ite_true (by kernel_rfl) ?_))
  refine ⟨?_⟩
  unfold Builtin.Getset_descriptor.descrStoreThrough Builtin.Getset_descriptor.descrCheckInstance Builtin.Getset_descriptor.descrNameAndClass Builtin.Getset_descriptor.descrItself
  repeat (first
    | ((with_reducible show wpAny _ _ (field _ _) _ _ _); refine wpAny_field gm rfl rfl ?_)
    | ((with_reducible show wpAny _ _ (isInstance _ _) _ _ _); refine k_isInstC gx rfl gC rfl rfl ?_)
    | ((with_reducible show wpAny _ _ (fieldsOf _) _ _ _); refine wpAny_fieldsOf gm rfl ?_)
    | ((with_reducible show wpAny _ _ (again _) _ _ _); refine halt ?_)
    | wp_step
    | (with_reducible refine wpAny_ite_false (by kernel_rfl) ?_) | (with_reducible refine wpAny_ite_true (by kernel_rfl) ?_))
  refine ⟨?_⟩
  refine wpAny_pure ⟨plainId_quiet (by decide +kernel) _, ?_⟩
  exact pslotset_spec w md x C N tm dd v sl A h g d t os h1 (by omega) (by omega) hT hn ht hg hl he hnd hf
noncomputable def pos3 (a : Args) : Bool := Nat.beq a.pos.length 3
noncomputable def mdGetG (a : Args) : GH :=
  { needs := [refA (pA a 0), refA (pA a 1)], more := [fun _ => [refA (pA a 2)]],
    code := fun l => .builtin "" ⟨[.ref (refA (pA a 0)), .ref (refA (pA a 1)), .ref (refA (pA a 2))], []⟩,
    objs := fun l => [mdO (refA (pA a 2)) (tokOf (fiAt (oAt l 0) 0)), insO (refA (pA a 2)) (oAt l 1).dict #[some (slAt (oAt l 1) 0)], clsO (cdNs (oAt l 2)) (refA (pA a 2)) (oAt l 2).slots],
    hk := fun l => hkVal (slAt (oAt l 1) 0) [mdO (refA (pA a 2)) (tokOf (fiAt (oAt l 0) 0)), insO (refA (pA a 2)) (oAt l 1).dict #[some (slAt (oAt l 1) 0)], clsO (cdNs (oAt l 2)) (refA (pA a 2)) (oAt l 2).slots] }
noncomputable def mdSetG (a : Args) : GH :=
  { needs := [refA (pA a 0), refA (pA a 1)], more := [fun l => [refA (fiAt (oAt l 0) 1)]],
    code := fun l => .builtin "" ⟨[.ref (refA (pA a 0)), .ref (refA (pA a 1)), pA a 2], []⟩,
    objs := fun l => [mdO (refA (fiAt (oAt l 0) 1)) (tokOf (fiAt (oAt l 0) 0)), insO (refA (fiAt (oAt l 0) 1)) (oAt l 1).dict #[], clsO (cdNs (oAt l 2)) (refA (fiAt (oAt l 0) 1)) (oAt l 2).slots],
    hk := fun l => hkVal .none [mdO (refA (fiAt (oAt l 0) 1)) (tokOf (fiAt (oAt l 0) 0)), insO (refA (fiAt (oAt l 0) 1)) (oAt l 1).dict #[some (pA a 2)], clsO (cdNs (oAt l 2)) (refA (fiAt (oAt l 0) 1)) (oAt l 2).slots] }
noncomputable def mdHook : Code → Option Hr := orHook (bHook 604966924436811072812999396559470488718822841308218051683950 pos3 mdGetG) (bHook 604966924454349092460970231577914706711418237544089242199662 pos3 mdSetG)
theorem md_hook (w : World) : HookS pr w (ktA w) 111 1 750 7500 mdHook :=
  (bHook_n (name := "member_descriptor.__get__") (by decide +kernel) 3 (fun _ _ => rfl) fun _ _ _ => mdget_spec w _ _ _ _ _ _ _ _).or
    (bHook_n (name := "member_descriptor.__set__") (by decide +kernel) 3 (fun _ _ => rfl) fun _ _ _ => mdset_spec w _ _ _ _ _ _ _ _)
end Mine
end
section
open PySem PySem.W PyProof.Rows PySem.W.X Mine
set_option Elab.async false
set_option maxRecDepth 100000
set_option maxHeartbeats 0
set_option linter.unusedVariables false
namespace Mine
noncomputable def hkBool (b : Bool) (objs : List Obj) : Hk := { nt := 0, nn := 0, res := fun _ _ => .ok (.ret (.bool b)), news := fun _ _ => [], upd := fun _ _ => objs }
end Mine
end
section
open PySem PySem.W PyProof.Rows PySem.W.X Mine
set_option Elab.async false
set_option maxRecDepth 100000
set_option maxHeartbeats 0
set_option linter.unusedVariables false
namespace Mine
noncomputable abbrev slK (T : Addr) (nm qn : Nat) : Array (Option Value) := #[some (.ref T), none, some (.str "K" nm), some (.str "cmp_to_key.<locals>.K" qn), some (.builtin "object.__new__"), some (.bool false)]
noncomputable abbrev edO : Obj := { cls := .type "dict", data := .dict #[] }
noncomputable def hkObj (C : Addr) (objs : List Obj) : Hk := { nt := 0, nn := 2, res := fun _ av => .ok (.ret (.ref (av.getD 1 0))), news := fun _ av => [edO, insO C (some (av.getD 0 0)) #[]], upd := fun _ _ => objs }
theorem Lg.hook {xs : List Addr} {h₀ h h' : Heap} {l : List (Addr × Obj)} {needs : List Addr} {objs upd news : List Obj} {av : List Nat} (D : Lg xs h₀ h (needs.zip objs ++ l)) (A : After h h' needs upd news av) (ho : objs.length = needs.length) (hu : upd.length = needs.length) (hn : news.length = av.length) :
    Lg xs h₀ h' (needs.zip upd ++ l ++ av.zip news) := by
  have k1 : keysOf (needs.zip objs) = needs := by
    unfold keysOf
    exact List.map_fst_zip (by rw [ho]; exact Nat.le_refl _)
  have k2 : keysOf (needs.zip upd) = needs := by
    unfold keysOf
    exact List.map_fst_zip (by rw [hu]; exact Nat.le_refl _)
  have k3 : keysOf (av.zip news) = av := by
    unfold keysOf
    exact List.map_fst_zip (by rw [hn]; exact Nat.le_refl _)
  have nd := D.nd
  have kk : ∀ a b : List (Addr × Obj), keysOf (a ++ b) = keysOf a ++ keysOf b := fun a b => List.map_append
  rw [kk, k1, List.nodup_append] at nd
  have lt : ∀ p ∈ needs.zip objs ++ l, p.1 < h.objs.size := fun p hp => Heap.lt_size (D.get p hp)
  have old : ∀ b o, h₀.get? b = some o → b ∉ xs → b ∉ needs := fun b o e hb hm => by
    rw [← k1] at hm
    obtain ⟨p, hp, rfl⟩ := List.mem_map.mp hm
    rcases D.ge p (List.mem_append.mpr (.inl hp)) with q | q
    · exact hb q
    · exact absurd (Heap.lt_size e) (Nat.not_lt.mpr q)
  have tk : needs.take upd.length = needs := by rw [hu, List.take_length]
  refine ⟨Nat.le_trans D.size A.size, fun b o e hb => A.keep b o (D.keep b o e hb) (by rw [tk]; exact old b o e hb), fun p hp => ?_, ?_, fun p hp => ?_⟩
  · rcases List.mem_append.mp hp with hp | hp
    · rcases List.mem_append.mp hp with hp | hp
      · obtain ⟨i, hi⟩ := List.getElem?_of_mem hp
        rw [List.getElem?_zip_eq_some] at hi
        exact A.upd i _ _ hi.1 hi.2
      · refine A.keep _ _ (D.get p (List.mem_append.mpr (.inr hp))) ?_
        rw [tk]
        exact fun hm => nd.2.2 _ hm _ (List.mem_map_of_mem (f := (·.1)) hp) rfl
    · obtain ⟨i, hi⟩ := List.getElem?_of_mem hp
      rw [List.getElem?_zip_eq_some] at hi
      exact (A.news i _ _ hi.1 hi.2).2.2
  · rw [kk, kk, k2, k3, List.nodup_append, List.nodup_append]
    refine ⟨nd, A.nd, fun a ha b hb e => ?_⟩
    subst e
    have h1 : a < h.objs.size := by
      rcases List.mem_append.mp ha with ha | ha
      · rw [← k1] at ha
        obtain ⟨p, hp, rfl⟩ := List.mem_map.mp ha
        exact lt p (List.mem_append.mpr (.inl hp))
      · obtain ⟨p, hp, rfl⟩ := List.mem_map.mp ha
        exact lt p (List.mem_append.mpr (.inr hp))
    exact absurd h1 (Nat.not_lt.mpr (A.ge a hb))
  · rcases List.mem_append.mp hp with hp | hp
    · rcases List.mem_append.mp hp with hp | hp
      · have hm : p.1 ∈ keysOf (needs.zip objs) := by rw [k1, ← k2]; exact List.mem_map_of_mem (f := (·.1)) hp
        obtain ⟨p', hp', e⟩ := List.mem_map.mp hm
        have := D.ge p' (List.mem_append.mpr (.inl hp'))
        rwa [e] at this
      · exact D.ge p (List.mem_append.mpr (.inr hp))
    · have hm : p.1 ∈ av := by rw [← k3]; exact List.mem_map_of_mem (f := (·.1)) hp
      exact .inr (Nat.le_trans D.size (A.ge _ hm))
end Mine
end
section
open PySem PySem.W PyProof.Rows PySem.W.X Mine
set_option Elab.async false
set_option maxRecDepth 100000
set_option maxHeartbeats 0
set_option linter.unusedVariables false
namespace Mine
theorem k_madeBy {prog : Program} {w : World} {A : Around} {E : Value → Shared → Prop} {h : Heap} {g : Array GenState} {d : Drawn} {t : Nat} {os : OsState} {C N T : Addr} {nm qn : Nat} {Q : Option String → Shared → Prop} (hC : h.get? C = some (clsO N C (slK T nm qn)))
    (hq : Q (some "object.__new__") ⟨h, g, d, t, os⟩) : wpAny (model prog w) A (Bind.madeBy (.ref C)) Q E ⟨h, g, d, t, os⟩ := by
  unfold Bind.madeBy
  refine wpAny_bind (k_mroC hC rfl ?_)
  show wpAny _ _ (forIn [Value.ref C, .type "object"] _ _ >>= _) _ _ _
  rw [List.forIn_cons]
  refine wpAny_bind (wpAny_bind ?_)
  refine wpAny_bind (k_slotAt hC rfl ?_)
  exact wpAny_pure (wpAny_pure (wpAny_pure hq))
end Mine
end
section
open PySem PySem.W PyProof.Rows PySem.W.X Mine
set_option Elab.async false
set_option maxRecDepth 100000
set_option maxHeartbeats 0
set_option linter.unusedVariables false
namespace Mine
set_option genInjectivity false in
structure KP where
  C : Addr
  N : Addr
  T : Addr
  S : Addr
  f0 : Addr
  f1 : Addr
  f2 : Addr
  f3 : Addr
  f4 : Addr
  f5 : Addr
  st : Addr
  md : Addr
  cell : Addr
  fn : Addr
  c0 : Addr
  c1 : Addr
  c2 : Addr
  nm : Nat
  qn : Nat
  tm : Nat
  t1 : Nat
  t3 : Nat
  hh : Str → Int
  tt : Str → Nat
  h1 : Int
  h2 : Int
  k1 : Nat
  k2 : Nat
  b0 : Addr
  b1 : Addr
  b2 : Addr
  pm0 : Value
  ct0 : Value
  pm1 : Value
  ct1 : Value
  pm2 : Value
  ct2 : Value
  v0 : Value
  q0 : Str
  u0 : Nat
  r0 : List Value
  v1 : Value
  q1 : Str
  u1 : Nat
  r1 : List Value
  v2 : Value
  q2 : Str
  u2 : Nat
  r2 : List Value
namespace KP
variable (w : World) (k : KP)
noncomputable abbrev oC : Obj := clsO k.N k.C (slK k.T k.nm k.qn)
noncomputable abbrev oN : Obj := nsO k.hh k.tt k.t1 k.t3 k.S k.f0 k.f1 k.f2 k.f3 k.f4 k.f5 k.st k.md k.h1 k.h2 k.k1 k.k2
noncomputable abbrev o0 : Obj := fnO (fdK w 2 "cmp_to_key.<locals>.K.__init__" k.c0 k.b0 [] k.pm0 k.ct0)
noncomputable abbrev o1 : Obj := fnO (fdK w 3 "cmp_to_key.<locals>.K.__lt__" k.c1 k.b1 [("mycmp", k.cell)] k.pm1 k.ct1)
noncomputable abbrev o2 : Obj := fnO (fdK w 4 "cmp_to_key.<locals>.K.__gt__" k.c2 k.b2 [("mycmp", k.cell)] k.pm2 k.ct2)
noncomputable abbrev as : List Addr := [k.C, k.N, k.f0, k.c0, k.md, k.f1, k.c1, k.cell, k.f2, k.c2]
noncomputable abbrev os : List Obj := [k.oC, k.oN, k.o0 w, coO k.v0 k.q0 k.u0 k.r0, mdO k.C k.tm, k.o1 w, coO k.v1 k.q1 k.u1 k.r1, cellO k.fn, k.o2 w, coO k.v2 k.q2 k.u2 k.r2]
end KP
structure Kp (h h' : Heap) : Prop where
  size : h.objs.size ≤ h'.objs.size
  keep : ∀ b o, h.get? b = some o → h'.get? b = some o
theorem Kp.refl (h : Heap) : Kp h h := ⟨Nat.le_refl _, fun _ _ e => e⟩
theorem Kp.trans {a b c : Heap} (x : Kp a b) (y : Kp b c) : Kp a c := ⟨Nat.le_trans x.size y.size, fun _ _ e => y.keep _ _ (x.keep _ _ e)⟩
theorem Kp.top {t : KT} {h h' : Heap} (k : Kp h h') (T : TopOf t h) : TopOf t h' := fun a o e => k.keep a o (T a o e)
theorem After.kp {h h' : Heap} {needs : List Addr} {objs news : List Obj} {av : List Nat} (A : After h h' needs objs news av) (hl : objs.length = needs.length) (hg : ∀ (i : Nat) a o, needs[i]? = some a → objs[i]? = some o → h.get? a = some o) : Kp h h' := by
  refine ⟨A.size, fun b o e => ?_⟩
  by_cases hb : b ∈ needs.take objs.length
  · rw [hl, List.take_length] at hb
    obtain ⟨i, hi⟩ := List.getElem?_of_mem hb
    have hlt := (List.getElem?_eq_some_iff.mp hi).1
    have ho : objs[i]? = some (objs[i]'(hl ▸ hlt)) := List.getElem?_eq_getElem _
    have q := hg i b _ hi ho
    rw [e] at q
    cases q
    exact A.upd i b _ hi ho
  · exact A.keep b o e hb
structure KOn (w : World) (k : KP) (h : Heap) : Prop where
  get : ∀ (i : Nat) a o, k.as[i]? = some a → (k.os w)[i]? = some o → h.get? a = some o
  nd : k.as.Nodup
  far : ∀ a ∈ k.as, (ktA w).get a = none
  top : TopOf (ktA w) h
  size : 111 ≤ h.objs.size
theorem KOn.mono {w : World} {k : KP} {h h' : Heap} (K : KOn w k h) (p : Kp h h') : KOn w k h' := ⟨fun i a o e1 e2 => p.keep _ _ (K.get i a o e1 e2), K.nd, K.far, p.top K.top, Nat.le_trans K.size p.size⟩
noncomputable def Ins (C : Addr) (h : Heap) (i : Addr) (v : Value) : Prop := 111 ≤ i ∧ ∃ dc, h.get? i = some (insO C (some dc) #[some v])
theorem Ins.mono {C : Addr} {h h' : Heap} {i : Addr} {v : Value} (x : Ins C h i v) (p : Kp h h') : Ins C h' i v := let ⟨l, dc, e⟩ := x; ⟨l, dc, p.keep _ _ e⟩
section
variable {prog : Program} {w : World} {A : Around} {E : Value → Shared → Prop} {h₀ h : Heap} {g : Array GenState} {d : Drawn} {t : Nat} {os : OsState}
theorem k_specFn {nm : Str} {x y C f : Addr} {ox of oC oN : Obj} {c : ClassData} {Q : Option Value → Shared → Prop}
    (hx : h.get? x = some ox) (hxc : ox.cls = .ref C) (hC : h.get? C = some oC) (hcd : oC.data = .cls c) (hm : c.mro = [.ref C, .type "object"]) (hN : h.get? c.ns = some oN) (e : nsLook nm oN = pure (some (.ref f))) (hf : h.get? f = some of) (hfc : of.cls = .type "function")
    (hcall : wpAny (model prog w) A (call (.ref f) [.ref x, .ref y]) (fun v s' => Q (some v) s') E ⟨h, g, d, t, os⟩) : wpAny (model prog w) A (callSpecialIfBound? (.ref x) nm [.ref y]) Q E ⟨h, g, d, t, os⟩ := by
  simp only [callSpecialIfBound?, bindSpecialIfBound?]
  refine wpAny_holding (wpAny_bind (wpAny_bind ?_))
  unfold specialOf
  refine wpAny_bind (wpAny_bind (wpAny_loadPart' hx (wpAny_pure ?_)))
  rw [hxc]
  refine k_look_own hC hcd hm hN e ?_
  show wpAny _ _ _ _ _ _
  refine wpAny_bind (wpAny_askSetting (wpAny_ite ?_))
  have hb : ∀ {Q' : (Value × List Value) → Shared → Prop} {E' : Value → Shared → Prop}, Q' (.ref f, [.ref x]) ⟨h, g, d, t, os⟩ → wpAny (model prog w) A (bindSpecial (.ref f) (.ref x)) Q' E' ⟨h, g, d, t, os⟩ := fun hq => by
    unfold bindSpecial
    refine wpAny_bind (wpAny_bind (wpAny_loadPart' hf (wpAny_pure ?_)))
    rw [hfc]
    exact wpAny_ite_true (by kernel_rfl) (wpAny_pure hq)
  have fin : wpAny (model prog w) A (call (.ref f) ([.ref x] ++ [.ref y]) >>= fun v => pure (some v)) Q E ⟨h, g, d, t, os⟩ :=
    wpAny_bind (wpAny_mono hcall (fun v s' h' => wpAny_pure h') fun _ _ h' => h')
  split
  · exact wpAny_bind (hb (wpAny_pure fin))
  · exact wpAny_tryCatch (wpAny_bind (hb (wpAny_pure fin)))
end
structure KeyOn (w : World) (op : CmpOp) (C : Addr) {β : Type} (val : β → Value) (R : β → β → Bool) (dd uu : Nat) (h₀ : Heap) : Prop where
  new : ∀ {h : Heap} {g : Array GenState} {d : Drawn} {t : Nat} {os : OsState} {x : β} {Q : Value → Shared → Prop} {E : Value → Shared → Prop}, Kp h₀ h → 1 ≤ t →
    (∀ i h' t', Kp h h' → h.objs.size ≤ i → 1 ≤ t' → Ins C h' i (val x) → Q (.ref i) ⟨h', g, d, t', os⟩) → wpAny (model pr w) (An dd uu) (call (.ref C) [val x]) Q E ⟨h, g, d, t, os⟩
  cmp : ∀ {h : Heap} {g : Array GenState} {d : Drawn} {t : Nat} {os : OsState} {x y : β} {i j : Addr} {Q : Value → Shared → Prop} {E : Value → Shared → Prop}, Kp h₀ h → 1 ≤ t → Ins C h i (val x) → Ins C h j (val y) →
    (∀ h' t', Kp h h' → 1 ≤ t' → Q (.bool (R x y)) ⟨h', g, d, t', os⟩) → wpAny (model pr w) (An dd uu) (richCompare op (.ref i) (.ref j)) Q E ⟨h, g, d, t, os⟩
end Mine
end
section
open PySem PySem.W PyProof.Rows PySem.W.X Mine
set_option Elab.async false
set_option maxRecDepth 100000
set_option maxHeartbeats 0
set_option linter.unusedVariables false
namespace Mine
noncomputable abbrev kN : List Str := ["__module__", "__firstlineno__", "__slots__", "__init__", "__lt__", "__gt__", "__eq__", "__le__", "__ge__", "__hash__", "__static_attributes__"]
noncomputable def kGet (C : Addr) (l : List Obj) : KP :=
  { C, N := cdNs (oAt l 0), T := refA (slAt (oAt l 0) 0), S := refA (enAt (oAt l 1) 2).val, f0 := refA (enAt (oAt l 1) 3).val, f1 := refA (enAt (oAt l 1) 4).val, f2 := refA (enAt (oAt l 1) 5).val, f3 := refA (enAt (oAt l 1) 6).val, f4 := refA (enAt (oAt l 1) 7).val, f5 := refA (enAt (oAt l 1) 8).val,
    st := refA (enAt (oAt l 1) 10).val, md := refA (enAt (oAt l 1) 11).val, cell := cloA (fdAt (oAt l 5)), fn := cellA (oAt l 7), c0 := refA (fdAt (oAt l 2)).code, c1 := refA (fdAt (oAt l 5)).code, c2 := refA (fdAt (oAt l 8)).code,
    nm := tokOf (slAt (oAt l 0) 2), qn := tokOf (slAt (oAt l 0) 3), tm := tokOf (fiAt (oAt l 4) 0), t1 := tokOf (enAt (oAt l 1) 0).val, t3 := tokOf (enAt (oAt l 1) 1).val,
    hh := pick 0 kN ((List.range 11).map fun i => (enAt (oAt l 1) i).hash), tt := pick 0 kN ((List.range 11).map fun i => keyTok (enAt (oAt l 1) i)),
    h1 := (enAt (oAt l 1) 11).hash, h2 := (enAt (oAt l 1) 12).hash, k1 := keyTok (enAt (oAt l 1) 11), k2 := keyTok (enAt (oAt l 1) 12), b0 := (fdAt (oAt l 2)).builtins, b1 := (fdAt (oAt l 5)).builtins, b2 := (fdAt (oAt l 8)).builtins,
    pm0 := (fdAt (oAt l 2)).pyModule, ct0 := (fdAt (oAt l 2)).closureTuple, pm1 := (fdAt (oAt l 5)).pyModule, ct1 := (fdAt (oAt l 5)).closureTuple, pm2 := (fdAt (oAt l 8)).pyModule, ct2 := (fdAt (oAt l 8)).closureTuple,
    v0 := fiAt (oAt l 3) 0, q0 := strOf (fiAt (oAt l 3) 1), u0 := tokOf (fiAt (oAt l 3) 1), r0 := fiDrop (oAt l 3) 2, v1 := fiAt (oAt l 6) 0, q1 := strOf (fiAt (oAt l 6) 1), u1 := tokOf (fiAt (oAt l 6) 1), r1 := fiDrop (oAt l 6) 2, v2 := fiAt (oAt l 9) 0, q2 := strOf (fiAt (oAt l 9) 1), u2 := tokOf (fiAt (oAt l 9) 1), r2 := fiDrop (oAt l 9) 2 }
noncomputable def kS1 (l : List Obj) : List Addr := [cdNs (oAt l 0)]
noncomputable def kS2 (l : List Obj) : List Addr := [refA (enAt (oAt l 1) 3).val]
noncomputable def kS3 (l : List Obj) : List Addr := [refA (fdAt (oAt l 2)).code, refA (enAt (oAt l 1) 11).val, refA (enAt (oAt l 1) 4).val]
noncomputable def kS4 (l : List Obj) : List Addr := [refA (fdAt (oAt l 5)).code, cloA (fdAt (oAt l 5)), refA (enAt (oAt l 1) 5).val]
noncomputable def kS5 (l : List Obj) : List Addr := [refA (fdAt (oAt l 8)).code]
noncomputable abbrev kSt : List (List Obj → List Addr) := [kS1, kS2, kS3, kS4, kS5]
theorem SpecC.more {prog : Program} {w : World} {kt : KT} {n₀ t₁ dm um : Nat} {c : Code} {needs needs' : List Addr} {objs objs' : List Obj} {σ σ' : Hk} (S : SpecC prog w kt n₀ t₁ dm um c needs objs σ) (idx : List Nat) (hi : needs = idx.map (needs'.getD · 0)) (ho : objs = idx.map (objs'.getD · default)) (hb : ∀ i ∈ idx, i < needs'.length) (hnd : idx.Nodup)
    (hl : objs'.length = needs'.length) (hu : ∀ tv av, σ.upd tv av = objs) (e1 : σ.nt = σ'.nt) (e2 : σ.nn = σ'.nn) (e3 : σ.res = σ'.res) (e4 : σ.news = σ'.news) (e5 : ∀ tv av, σ'.upd tv av = []) (e6 : σ.eqs = []) : SpecC prog w kt n₀ t₁ dm um c needs' objs' σ' := by
  intro A h g d t os h1 h2 h3 hT hn ht hg hlo he hnd' hf
  have gi : ∀ (i : Nat) a o, needs[i]? = some a → objs[i]? = some o → h.get? a = some o := fun i a o q1 q2 => by
    subst hi ho
    rw [List.getElem?_map] at q1 q2
    cases z : idx[i]? with
    | none => rw [z] at q1; cases q1
    | some k =>
      rw [z] at q1 q2
      simp only [Option.map_some, Option.some.injEq] at q1 q2
      have hk := hb k (List.mem_of_getElem? z)
      refine hg k a o ?_ ?_
      · rw [← q1, List.getD_eq_getElem?_getD, List.getElem?_eq_getElem hk]; rfl
      · rw [← q2, List.getD_eq_getElem?_getD, List.getElem?_eq_getElem (hl ▸ hk)]; rfl
  have hln : objs.length = needs.length := by rw [hi, ho, List.length_map, List.length_map]
  refine codeAny_mono (S A h g d t os h1 h2 h3 hT hn ht gi hln (fun e q => by rw [e6] at q; cases q) ?_ fun a ha => ?_) fun r s' x => ?_
  · rw [hi]
    refine List.pairwise_map.mpr (hnd.imp_of_mem fun {a b} ha hb' hab e => hab ?_)
    have la := hb a ha
    have lb := hb b hb'
    rw [List.getD_eq_getElem?_getD, List.getD_eq_getElem?_getD, List.getElem?_eq_getElem la, List.getElem?_eq_getElem lb] at e
    exact (List.getElem?_inj la hnd').mp (by rw [List.getElem?_eq_getElem la, List.getElem?_eq_getElem lb]; exact congrArg some e)
  · rw [hi] at ha
    obtain ⟨k, hk, rfl⟩ := List.mem_map.mp ha
    refine hf _ ?_
    have hk' := hb k hk
    show needs'.getD k 0 ∈ needs'
    rw [List.getD_eq_getElem?_getD, List.getElem?_eq_getElem hk']
    exact List.getElem_mem hk'
  · obtain ⟨h', t', tv, av, rfl, a1, a2, a3, a4, rfl, a5⟩ := x
    rw [hu] at a5
    have K := After.kp a5 hln gi
    refine ⟨h', t', tv, av, rfl, a1, e1 ▸ a2, e2 ▸ a3, a4, by rw [e3], ?_⟩
    rw [e5]
    exact ⟨a5.size, fun b o e _ => K.keep b o e, fun i a x q1 q2 => by simp at q2, e4 ▸ a5.news, a5.nd, a5.ge⟩
end Mine
end
section
open PySem PySem.W PyProof.Rows PySem.W.X Mine
set_option Elab.async false
set_option maxRecDepth 100000
set_option maxHeartbeats 0
set_option linter.unusedVariables false
namespace Mine
end Mine
end
section
open PySem PySem.W PyProof.Rows PySem.W.X Mine
set_option Elab.async false
set_option maxRecDepth 100000
set_option maxHeartbeats 0
set_option linter.unusedVariables false
namespace Mine
end Mine
end
section
open PySem PySem.W PyProof.Rows PySem.W.X Mine
set_option Elab.async false
set_option maxRecDepth 100000
set_option maxHeartbeats 0
set_option linter.unusedVariables false
namespace Mine
theorem Ins.notin {w : World} {k : KP} {h : Heap} {i : Addr} {v : Value} (K : KOn w k h) (I : Ins k.C h i v) : i ∉ k.as := by
  intro hm
  obtain ⟨j, hj⟩ := List.getElem?_of_mem hm
  have hlt := (List.getElem?_eq_some_iff.mp hj).1
  have hlt2 : j < (k.os w).length := hlt
  have ho : (k.os w)[j]? = some ((k.os w)[j]'hlt2) := List.getElem?_eq_getElem _
  have e := K.get j i _ hj ho
  obtain ⟨_, dc, e2⟩ := I
  rw [e2] at e
  have c : ∀ o ∈ k.os w, o.cls ≠ .ref k.C := by
    intro o ho
    simp only [KP.os, List.mem_cons, List.not_mem_nil, or_false] at ho
    rcases ho with rfl | rfl | rfl | rfl | rfl | rfl | rfl | rfl | rfl | rfl <;> exact fun e => nomatch e
  have e3 : insO k.C (some dc) #[some v] = (k.os w)[j]'hlt2 := Option.some.inj e
  exact c _ (List.getElem_mem hlt2) (by rw [← e3])
theorem KOn.ask {w : World} {k : KP} {h : Heap} (K : KOn w k h) (l : List (Addr × Obj)) (hl : ∀ p ∈ l, h.get? p.1 = some p.2) (hk : ∀ p ∈ l, p.1 ∉ k.as) (hn : (l.map (·.1)).Nodup) (hf : ∀ p ∈ l, 111 ≤ p.1) :
    (∀ (i : Nat) a o, (k.as ++ l.map (·.1))[i]? = some a → (k.os w ++ l.map (·.2))[i]? = some o → h.get? a = some o) ∧ (k.os w ++ l.map (·.2)).length = (k.as ++ l.map (·.1)).length ∧ (k.as ++ l.map (·.1)).Nodup ∧ ∀ a ∈ k.as ++ l.map (·.1), (ktA w).get a = none := by
  refine ⟨fun i a o e1 e2 => ?_, by rw [List.length_append, List.length_append, List.length_map, List.length_map]; rfl, ?_, fun a ha => ?_⟩
  · by_cases hi : i < 10
    · rw [List.getElem?_append_left hi] at e1
      rw [List.getElem?_append_left hi] at e2
      exact K.get i a o e1 e2
    · rw [List.getElem?_append_right (show k.as.length ≤ i from Nat.le_of_not_lt hi), List.getElem?_map] at e1
      rw [List.getElem?_append_right (show (k.os w).length ≤ i from Nat.le_of_not_lt hi), List.getElem?_map] at e2
      cases z : l[i - 10]? with
      | none =>
        have : l[i - k.as.length]? = none := z
        rw [this] at e1; cases e1
      | some p =>
        have z1 : l[i - k.as.length]? = some p := z
        have z2 : l[i - (k.os w).length]? = some p := z
        rw [z1] at e1
        rw [z2] at e2
        cases e1; cases e2
        exact hl p (List.mem_of_getElem? z)
  · refine List.nodup_append.mpr ⟨K.nd, hn, fun a ha b hb e => ?_⟩
    obtain ⟨p, hp, rfl⟩ := List.mem_map.mp hb
    exact hk p hp (e ▸ ha)
  · rcases List.mem_append.mp ha with ha | ha
    · exact K.far a ha
    · obtain ⟨p, hp, rfl⟩ := List.mem_map.mp ha
      exact ktBound_none (ktA_bound w) (hf p hp)
end Mine
end
section
open PySem PySem.W PyProof.Rows PySem.W.X Mine
set_option Elab.async false
set_option maxRecDepth 100000
set_option maxHeartbeats 0
set_option linter.unusedVariables false
namespace Mine
theorem Kp.same {h₀ h h' : Heap} {a : Addr} (k : Kp h₀ h) (hs : Heap.SameBut a h h') (ha : h₀.objs.size ≤ a) : Kp h₀ h' :=
  ⟨by rw [hs.1]; exact k.size, fun b o e => (hs.2 b (Nat.ne_of_lt (Nat.lt_of_lt_of_le (Heap.lt_size e) ha))).trans (k.keep b o e)⟩
section
variable {w : World} {g : Array GenState} {d : Drawn} {os : OsState} {h₀ : Heap} {C l I S : Addr} {β : Type} {val : β → Value} {R : β → β → Bool} {xs : List β}
end
end Mine
end
section
open PySem PySem.W PyProof.Rows PySem.W.X Mine
set_option Elab.async false
set_option maxRecDepth 100000
set_option maxHeartbeats 0
set_option linter.unusedVariables false
namespace Mine
section
variable {w : World} {g : Array GenState} {d : Drawn} {os : OsState} {h₀ : Heap} {C l I S : Addr} {β : Type} {val : β → Value} {R : β → β → Bool} {xs : List β}
end
end Mine
end
section
open PySem PySem.W PyProof.Rows PySem.W.X
set_option Elab.async false
set_option maxRecDepth 100000
set_option maxHeartbeats 4000000
set_option linter.unusedVariables false
namespace Mine
noncomputable abbrev liS (vs : List Value) (n : Nat) : Obj := { cls := .type "list", data := .seq ⟨vs⟩ n }
noncomputable abbrev NoE : Value → Shared → Prop := fun _ _ => False
theorem wpNo {α : Type} {M : Model} {A : Around} {t : Sem α} {Q : α → Shared → Prop} {E : Value → Shared → Prop} {s : Shared} (h : wpAny M A t Q NoE s) : wpAny M A t Q E s :=
  wpAny_mono h (fun _ _ x => x) fun _ _ x => x.elim
theorem for_one {prog : Program} {w : World} {A : Around} {R : Result → Shared → Prop} {target : Expr} {it : Value} {body orelse : List Stmt} {env : Env} {s : Shared}
    (H : wpAny (model prog w) A (pyNext it) (fun r s₁ => match r with
      | none => wpAny (model prog w) A (execs orelse env) (fun f s₃ => R (.ok f) s₃) NoE s₁
      | some v => wpAny (model prog w) A (letOwnedTupleGo target it v) (fun _ s₁' =>
          wpAny (model prog w) A (assign target env v) (fun _ s₂ => wpAny (model prog w) A (execs body env) (fun f s₃ => match f with
            | .next | .cont => codeAny (model prog w) A (.forLoop target it body orelse env) R s₃
            | .brk => R (.ok .next) s₃
            | .ret v => R (.ok (.ret v)) s₃) NoE s₂) NoE s₁') NoE s₁) NoE s) : codeAny (model prog w) A (.forLoop target it body orelse env) R s := by
  refine codeAny_of_tree ?_
  show wpAny _ A ((forTurn target it body orelse env).onRaise (fun x => do noteFrame x env; theTreesLotGoes x)) _ _ s
  refine wpAny_noted ?_
  simp only [forTurn]
  refine wpAny_bind (wpAny_standAt (wpAny_bind (wpAny_onRaise (wpAny_mono H (fun r s₁ h₁ => ?_) fun _ _ h' => h'.elim))))
  cases r with
  | none => exact wpAny_pure ⟨rfl, codeAny_block (wpAny_mono h₁ (fun _ _ x => x) fun _ _ x => x.elim)⟩
  | some v =>
    refine wpAny_bind (wpAny_mono h₁ (fun _ s₁' h₁' => ?_) fun _ _ h' => h'.elim)
    refine wpAny_bind (wpAny_mono h₁' (fun _ s₂ h₂ => wpAny_bind (wpAny_mono h₂ (fun f s₃ h₃ => ?_) fun _ _ h' => h'.elim)) fun _ _ h' => h'.elim)
    cases f with
    | next => exact wpAny_pure ⟨rfl, h₃⟩
    | cont => exact wpAny_pure ⟨rfl, h₃⟩
    | brk => exact wpAny_pure h₃
    | ret v => exact wpAny_pure h₃
theorem Lg.turn {xs : List Addr} {h₀ h h' : Heap} {l : List (Addr × Obj)} {a : Addr} {o o' : Obj} (D : Lg xs h₀ h ((a, o) :: l)) (hs : Heap.SameBut a h h') (ho : h'.get? a = some o') : Lg xs h₀ h' ((a, o') :: l) := by
  have nd := D.nd
  unfold keysOf at nd
  rw [List.map_cons, List.nodup_cons] at nd
  refine ⟨by rw [hs.1]; exact D.size, fun b o e hb => (hs.2 b fun q => ?_).trans (D.keep b o e hb), fun p hp => ?_, D.nd, fun p hp => ?_⟩
  · subst q
    rcases D.ge _ (.head _) with q | q
    · exact hb q
    · exact absurd (Heap.lt_size e) (Nat.not_lt.mpr q)
  · rcases List.mem_cons.mp hp with rfl | hp
    · exact ho
    · exact (hs.2 p.1 fun q => nd.1 (q ▸ List.mem_map_of_mem (f := (·.1)) hp)).trans (D.get p (.tail _ hp))
  · rcases List.mem_cons.mp hp with rfl | hp
    · exact D.ge (a, o) (.head _)
    · exact D.ge p (.tail _ hp)
noncomputable abbrev enumO (v it : Value) (i : Int) (old : Value) : Obj := { cls := .type "enumerate", dict := none, data := .fields #[v, .bool false, it, .int i 0, .none, old], slots := #[] }
theorem own_enum {prog : Program} {w : World} {A : Around} {E : Value → Shared → Prop} {h₀ h : Heap} {g : Array GenState} {d : Drawn} {t : Nat} {os : OsState} {xs : List Addr} {l : List (Addr × Obj)} {elts : List Expr} {x1} {pos : Pos} {e it a : Addr} {i : Int} {item : Value} {Q : Unit → Shared → Prop}
    (D : Lg xs h₀ h ((e, enumO (rawInt a) (.ref it) i item) :: l)) (hq : ∀ h', Lg xs h₀ h' ((e, enumO .none (.ref it) i item) :: l) → Q () ⟨h', g, d, t, os⟩) :
    wpAny (model prog w) A (letOwnedTupleGo (.Tuple elts x1 pos) (.ref e) (.ref a)) Q E ⟨h, g, d, t, os⟩ :=
  wpAny_letOwnedTupleGo_enum (D.get _ (.head _)) fun h' he' hs => hq h' (D.turn hs he')
theorem execs_one {M : Model} {A : Around} {E : Value → Shared → Prop} {s : Shared} {a : Stmt} {r : List Stmt} {env : Env} {Q : Flow → Shared → Prop}
    (h : wpAny M A (execs [a] env) (fun f s' => f = .next ∧ wpAny M A (execs r env) Q E s') E s) : wpAny M A (execs (a :: r) env) Q E s := by
  refine wpAny_execs_cons ?_
  have h2 : wpAny M A (exec a env >>= fun f => match f with | .next => execs [] env | f => pure f) (fun f s' => f = .next ∧ wpAny M A (execs r env) Q E s') E s := h
  intro Γ p hΓ
  have h3 := h2 Γ p hΓ
  rw [Sem.wp_bind'] at h3
  refine Sem.wp_mono M Γ _ (fun f p' s' x => ?_) (fun _ _ _ x => x) p s h3
  cases f with
  | next =>
    intro Γ' p' hΓ'
    exact (x.2 Γ' p' hΓ')
  | _ => exact absurd x.1 (by intro e; cases e)
section
variable {M : Model} {A : Around} {E : Value → Shared → Prop} {s : Shared}
theorem tw_execs {l : List Stmt} {env : Env} {Q : Flow → Shared → Prop} (h : wpAny M A (PySem.W.ZFast.zw12563942051412417395 l env) Q E s) : wpAny M A (execs l env) Q E s := by rw [PySem.W.ZFast.ze12563942051412417395]; exact h
theorem tw_eval {e : PySem.Expr} {env : Env} {Q : Value → Shared → Prop} (h : wpAny M A (PySem.W.ZFast.zw14044960220447912780 e env) Q E s) : wpAny M A (eval e env) Q E s := by rw [PySem.W.ZFast.ze14044960220447912780]; exact h
theorem tw_assign {e : PySem.Expr} {env : Env} {v : Value} {Q : Unit → Shared → Prop} (h : wpAny M A (PySem.W.ZFast.zw17772580674575903948 e env v) Q E s) : wpAny M A (assign e env v) Q E s := by rw [PySem.W.ZFast.ze17772580674575903948]; exact h
theorem tw_pyNext {v : Value} {Q : Option Value → Shared → Prop} (h : wpAny M A (PySem.W.ZFast.zw9404975358583537561 v) Q E s) : wpAny M A (pyNext v) Q E s := by rw [PySem.W.ZFast.ze9404975358583537561]; exact h
theorem tw_pyIter {v : Value} {Q : Value → Shared → Prop} (h : wpAny M A (PySem.W.ZFast.zw8711993805878244202 v) Q E s) : wpAny M A (pyIter v) Q E s := by rw [PySem.W.ZFast.ze8711993805878244202]; exact h
theorem tw_folded {e : PySem.Expr} {env : Env} {v : Value} {Q : Value → Shared → Prop} (h : wpAny M A (PySem.W.ZFast.zw7768414822394308030 e env v) Q E s) : wpAny M A (foldedSetIterable e env v) Q E s := by rw [PySem.W.ZFast.ze7768414822394308030]; exact h
end
end Mine
end
section
open PySem PySem.W PyProof.Rows PySem.W.X Mine
set_option Elab.async false
set_option maxRecDepth 100000
set_option maxHeartbeats 0
set_option linter.unusedVariables false
namespace Mine
end Mine
end
section
open PySem PySem.W PyProof.Rows PySem.W.X Mine
set_option Elab.async false
set_option maxRecDepth 100000
set_option maxHeartbeats 0
set_option linter.unusedVariables false
namespace Mine
theorem mod_spec (w : World) (a : Int) (n ta tb : Nat) : SpecC pr w (ktA w) 111 1 800 8000 (.builtin "int.__mod__" ⟨[.int a ta, .int (.ofNat (n + 1)) tb], []⟩) [] [] (hkInt (Int.fmod a (.ofNat (n + 1)))) := by
  rw [Z.modQ_eq]
  exact spec_run (dmh := 0) (umh := 0) (hook := fun _ => none) 1000 [] [] [0] (ktA_bound w) HookS.none rfl rfl (fun _ _ => rfl) rfl rfl List.nodup_nil (orc0 (by kernel_rfl))
noncomputable def modT (a : Args) : Bool := match two isInt a with
  | true => match intOf (pA a 1) with
    | .ofNat m => match m with
      | 0 => false
      | _ + 1 => true
    | _ => false
  | false => false
noncomputable def modN (a : Args) : Nat := (intOf (pA a 1)).toNat - 1
noncomputable def modG' (x : Int) (t0 n t1 : Nat) : GH :=
  { needs := [], code := fun _ => .builtin "" ⟨[.int x t0, .int (.ofNat (n + 1)) t1], []⟩, objs := fun _ => [], hk := fun _ => hkInt (Int.fmod x (.ofNat (n + 1))) }
noncomputable def modG (a : Args) : GH := strictI (pA a 0) fun x t0 => strict (modN a) fun n => modG' x t0 n (tokOf (pA a 1))
theorem modG_eq : modG = fun a => modG' (intOf (pA a 0)) (tokOf (pA a 0)) (modN a) (tokOf (pA a 1)) := funext fun a => (strictI_eq _ _).trans (strict_eq _ _)
noncomputable def modHook : Code → Option Hr := bHook 116512097088030077292474218 modT modG
theorem mod_hook (w : World) : HookS pr w (ktA w) 111 1 800 8000 modHook := by
  unfold modHook
  rw [modG_eq]
  exact bHook_n (name := "int.__mod__") (by decide +kernel) 0 (fun _ _ => rfl) fun a _ _ => mod_spec w _ _ _ _
theorem HookS.le {prog : Program} {w : World} {kt : KT} {n₀ t₁ dm um dm' um' : Nat} {f : Code → Option Hr} (H : HookS prog w kt n₀ t₁ dm um f) (hd : dm' ≤ dm) (hu : um' ≤ um) : HookS prog w kt n₀ t₁ dm' um' f :=
  fun c r objs σ h1 h2 A h g d t os a1 a2 a3 => H c r objs σ h1 h2 A h g d t os a1 (Nat.le_trans a2 hd) (Nat.le_trans a3 hu)
end Mine
end
section
open PySem PySem.W PyProof.Rows PySem.W.X Mine
set_option Elab.async false
set_option maxRecDepth 100000
set_option maxHeartbeats 0
set_option linter.unusedVariables false
namespace Mine
noncomputable def hkB (b : Bool) : Hk := { nt := 0, nn := 0, res := fun _ _ => .ok (.ret (.bool b)), news := fun _ _ => [], upd := fun _ _ => [] }
theorem eq_spec (w : World) (a b : Int) (ta tb : Nat) : SpecC pr w (ktA w) 111 1 800 8000 (.builtin "int.__eq__" ⟨[.int a ta, .int b tb], []⟩) [] [] (hkB (@decide (a = b) (Z.eqZ a b))) := by
  exact spec_run (dmh := 0) (umh := 0) (hook := fun _ => none) 1000 [] [] [] (ktA_bound w) HookS.none rfl rfl (fun _ _ => rfl) rfl rfl List.nodup_nil (orc0 (by kernel_rfl))
noncomputable abbrev andI (a b : Int) : Int := PySem.W.ZFast.zw4806658248164788318 a b
noncomputable def pLook (y : Int) : List (Int × Int × Bool) → Option (Int × Bool)
  | [] => none
  | p :: l => match Z.eqB y p.1 with
    | true => some p.2
    | false => pLook y l
noncomputable def PathOk (m : Int) (p : List (Int × Int × Bool)) : Prop := ∀ q ∈ p, decide (andI m q.2.1 = q.1) = q.2.2
theorem pLook_of {m y : Int} : ∀ {p : List (Int × Int × Bool)} {q : Int × Bool}, PathOk m p → pLook y p = some q → decide (andI m q.1 = y) = q.2
  | [], q, _, h => nomatch h
  | r :: p, q, hp, h => by
    unfold pLook at h
    split at h
    · rename_i hb
      cases h
      have e := (Z.eqB_iff _ _).mp hb
      subst e
      exact hp r (.head _)
    · exact pLook_of (fun q hq => hp q (.tail _ hq)) h
noncomputable def pAns (y : Int) (p : List (Int × Int × Bool)) : Int × Bool := (pLook y p).getD (0, false)
noncomputable def pathT (p : List (Int × Int × Bool)) (a : Args) : Bool := match two isInt a with
  | true => (pLook (intOf (pA a 1)) p).isSome
  | false => false
noncomputable def pathG (m : Int) (p : List (Int × Int × Bool)) (a : Args) : GH :=
  { needs := [], code := fun _ => .builtin "" ⟨[.int (andI m (pAns (intOf (pA a 1)) p).1) (tokOf (pA a 0)), .int (intOf (pA a 1)) (tokOf (pA a 1))], []⟩, objs := fun _ => [], hk := fun _ => hkB (pAns (intOf (pA a 1)) p).2 }
noncomputable def pathHook (m : Int) (p : List (Int × Int × Bool)) : Code → Option Hr := bHook 455126313168696235093866 (pathT p) (pathG m p)
theorem path_hook (w : World) {m : Int} {p : List (Int × Int × Bool)} (hp : PathOk m p) : HookS pr w (ktA w) 111 1 800 8000 (pathHook m p) :=
  bHook_t (name := "int.__eq__") (by decide +kernel) 0 (fun _ _ => rfl) fun a _ ht _ => by
    have e : pLook (intOf (pA a 1)) p = some (pAns (intOf (pA a 1)) p) := by
      unfold pathT at ht
      unfold pAns
      cases h : pLook (intOf (pA a 1)) p with
      | none => rw [h] at ht; revert ht; cases two isInt a <;> intro ht <;> cases ht
      | some q => rfl
    have z := eq_spec w (andI m (pAns (intOf (pA a 1)) p).1) (intOf (pA a 1)) (tokOf (pA a 0)) (tokOf (pA a 1))
    rw [show @decide (andI m (pAns (intOf (pA a 1)) p).1 = intOf (pA a 1)) (Z.eqZ (andI m (pAns (intOf (pA a 1)) p).1) (intOf (pA a 1))) = (pAns (intOf (pA a 1)) p).2 from (by rw [← pLook_of hp e]; congr)] at z
    exact z
theorem Lg.top {kt : KT} {h₀ h : Heap} {l : List (Addr × Obj)} (D : Lg [] h₀ h l) (hT : TopOf kt h₀) : TopOf kt h := fun a o e => D.keep a o (hT a o e) (fun hm => nomatch hm)
end Mine
end
section
open PySem PySem.W PyProof.Rows PySem.W.X Mine
set_option Elab.async false
set_option maxRecDepth 100000
set_option maxHeartbeats 0
set_option linter.unusedVariables false
namespace Mine
noncomputable def encF' (f : Flow) : PySem.Fin := .done f
theorem encF'_inj (a b : Flow) (h : encF' a = encF' b) : a = b := by cases h; rfl
noncomputable def encI' (f : PySem.Fin) : PySem.Fin := f
theorem encI'_inj (a b : PySem.Fin) (h : encI' a = encI' b) : a = b := h
noncomputable def fdOf' (o : Option Obj) : FuncData := match o with
  | some o => match o.data with
    | .func fd => fd
    | _ => default
  | none => default
noncomputable def fmFd (w : World) : FuncData := fdOf' ((ktA w).get 84)
noncomputable def fmBody (w : World) : List Stmt := match (fmFd w).body with
  | .stmts b => b
  | _ => []
noncomputable def fmA (w : World) : Stmt := (fmBody w).getD 0 default
noncomputable def fmR (w : World) : Stmt := (fmBody w).getD 2 default
noncomputable def fmT (w : World) : PySem.Expr := match (fmBody w).getD 1 default with
  | .For t _ _ _ _ => t
  | _ => default
noncomputable def fmI (w : World) : PySem.Expr := match (fmBody w).getD 1 default with
  | .For _ i _ _ _ => i
  | _ => default
noncomputable def fmB (w : World) : List Stmt := match (fmBody w).getD 1 default with
  | .For _ _ b _ _ => b
  | _ => []
noncomputable def fmP (w : World) : Pos := match (fmBody w).getD 1 default with
  | .For _ _ _ _ p => p
  | _ => default
theorem fmBody_eq (w : World) : fmBody w = [fmA w, .For (fmT w) (fmI w) (fmB w) [] (fmP w), fmR w] := by kernel_rfl
noncomputable def fmEnv (w : World) (L : Addr) : Env :=
  { scope := (fmFd w).scope, locals := L, globals := (fmFd w).globals, cells := [], qual := (fmFd w).qualname ++ ".<locals>.", func := some 84, code := (fmFd w).code, frame := some L, builtins := (fmFd w).builtins }
noncomputable abbrev rEnt (w : World) (s : Str) (k : Nat) (v : Value) : DictEntry := ⟨PySem.W.ZFast.zw12210062019545310541 (w.params.strHash s.cps), .str s k, v⟩
noncomputable abbrev fmF0 (w : World) (m : Int) (tm k0 : Nat) : Obj := { cls := .type "frame", data := .dict #[rEnt w "mode" k0 (.int m tm)] 1 }
noncomputable abbrev fmF1 (w : World) (m : Int) (tm k0 k1 : Nat) (pl : Addr) : Obj := { cls := .type "frame", data := .dict #[rEnt w "mode" k0 (.int m tm), rEnt w "perm" k1 (.ref pl)] 2 }
noncomputable abbrev tiO (l : Addr) (i : Int) : Obj := { cls := .type "tuple_iterator", data := .fields #[.ref l, .int i 0] }
noncomputable def fmEl (w : World) : List PySem.Expr := match fmT w with
  | .Tuple l _ _ => l
  | _ => []
noncomputable def fmX (w : World) := match fmT w with
  | .Tuple _ x _ => x
  | _ => default
noncomputable def fmTp (w : World) : Pos := match fmT w with
  | .Tuple _ _ p => p
  | _ => default
theorem fmT_eq (w : World) : fmT w = .Tuple (fmEl w) (fmX w) (fmTp w) := by kernel_rfl
noncomputable abbrev fmF (w : World) (m : Int) (tm : Nat) (pl : Addr) (k0 k1 k2 k3 k4 k5 : Nat) (vi vt vb vc : Value) : Obj := { cls := .type "frame", data := .dict #[rEnt w "mode" k0 (.int m tm), rEnt w "perm" k1 (.ref pl), rEnt w "index" k2 vi, rEnt w "table" k3 vt, rEnt w "bit" k4 vb, rEnt w "char" k5 vc] 6 }
noncomputable abbrev fmF2 (w : World) (m : Int) (tm : Nat) (pl : Addr) (k0 k1 k2 k3 : Nat) (vi vt : Value) : Obj := { cls := .type "frame", data := .dict #[rEnt w "mode" k0 (.int m tm), rEnt w "perm" k1 (.ref pl), rEnt w "index" k2 vi, rEnt w "table" k3 vt] 4 }
noncomputable abbrev tupO (vs : List Value) : Obj := { cls := .type "tuple", data := .seq ⟨vs⟩ }
noncomputable def pickC (m : Int) (dflt : Nat) : List (Int × Int × Nat) → Nat
  | [] => dflt
  | p :: l => if andI m p.1 = p.2.1 then p.2.2 else pickC m dflt l
noncomputable def pathC (dflt : Nat) : List (Int × Int × Nat) → List (Int × Int × Bool) → Option Nat
  | [], [] => some dflt
  | p :: l, q :: r => match decide (q.1 = p.2.1) && decide (q.2.1 = p.1), q.2.2 with
    | true, true => some p.2.2
    | true, false => pathC dflt l r
    | false, _ => none
  | _, _ => none
theorem pick_path {m : Int} {dflt : Nat} : ∀ {tab : List (Int × Int × Nat)} {path : List (Int × Int × Bool)} {c : Nat}, PathOk m path → pathC dflt tab path = some c → pickC m dflt tab = c
  | [], [], c, _, h => Option.some.inj h
  | [], _ :: _, c, _, h => nomatch h
  | _ :: _, [], c, _, h => nomatch h
  | p :: l, q :: r, c, hp, h => by
    have hq := hp q (.head _)
    unfold pathC at h
    unfold pickC
    split at h
    · rename_i e1 e2
      have e := (Bool.and_eq_true _ _).mp e1
      rw [e2, of_decide_eq_true e.1, of_decide_eq_true e.2] at hq
      rw [if_pos (of_decide_eq_true hq)]
      exact Option.some.inj h
    · rename_i e1 e2
      have e := (Bool.and_eq_true _ _).mp e1
      rw [e2, of_decide_eq_true e.1, of_decide_eq_true e.2] at hq
      rw [if_neg (of_decide_eq_false hq)]
      exact pick_path (fun q hq => hp q (.tail _ hq)) h
    · exact nomatch h
noncomputable def AllW (m : Int) (G : Prop) : List (Int × Int × Nat) → List (Int × Int × Bool) → Prop
  | [], acc => PathOk m acc → G
  | p :: l, acc => (PathOk m (acc ++ [(p.2.1, p.1, true)]) → G) ∧ AllW m G l (acc ++ [(p.2.1, p.1, false)])
theorem PathOk.snoc {m : Int} {acc : List (Int × Int × Bool)} {q : Int × Int × Bool} (h : PathOk m acc) (hq : decide (andI m q.2.1 = q.1) = q.2.2) : PathOk m (acc ++ [q]) := fun x hx => by
  rcases List.mem_append.mp hx with hx | hx
  · exact h x hx
  · cases List.mem_singleton.mp hx
    exact hq
theorem ways {m : Int} {G : Prop} : ∀ (tab : List (Int × Int × Nat)) (acc : List (Int × Int × Bool)), PathOk m acc → AllW m G tab acc → G
  | [], acc, hp, h => h hp
  | p :: l, acc, hp, h => by
    by_cases q : andI m p.1 = p.2.1
    · exact h.1 (hp.snoc (decide_eq_true q))
    · exact ways l _ (hp.snoc (decide_eq_false q)) h.2
set_option genInjectivity false in
set_option genSizeOf false in
structure FV where
  k2 : Nat
  k3 : Nat
  k4 : Nat
  k5 : Nat
  vi : Value
  vt : Value
  vb : Value
  vc : Value
set_option genInjectivity false in
set_option genSizeOf false in
structure FC where
  L : Addr
  pl : Addr
  it : Addr
  e : Addr
  m : Int
  tm : Nat
  k0 : Nat
  k1 : Nat
  ch : Nat → Nat
noncomputable def fmFv (w : World) (c : FC) (x : FV) : Obj := fmF w c.m c.tm c.pl c.k0 c.k1 x.k2 x.k3 x.k4 x.k5 x.vi x.vt x.vb x.vc
noncomputable def chF (ch s : Nat → Nat) (j : Nat) : List Value := (List.range j).map fun i => .str ⟨#[ch i]⟩ (s i)
theorem chF_snoc (ch s : Nat → Nat) (j x : Nat) : chF ch s j ++ [.str ⟨#[ch j]⟩ x] = chF ch (fun i => cond (Nat.beq i j) x (s i)) (j + 1) := by
  unfold chF
  rw [List.range_succ, List.map_append]
  congr 1
  · refine List.map_congr_left fun i hi => ?_
    have h : Nat.beq i j = false := by
      cases e : Nat.beq i j
      · rfl
      · exact absurd (Nat.eq_of_beq_eq_true e) (Nat.ne_of_lt (List.mem_range.mp hi))
    show _ = Value.str ⟨#[ch i]⟩ (cond (Nat.beq i j) x (s i))
    rw [h]
    rfl
  · show _ = [Value.str ⟨#[ch j]⟩ (cond (Nat.beq j j) x (s j))]
    rw [Nat.beq_refl]
    rfl
noncomputable def fmLf (c : FC) (j : Nat) (old : Value) (fr : Obj) (cs : List Value) : List (Addr × Obj) := [(c.e, enumO .none (.ref c.it) (.ofNat j) old), (c.it, tiO 77 (.ofNat j)), (c.L, fr), (c.pl, liS cs j)]
noncomputable def fmLt (c : FC) (j rf : Nat) (fr : Obj) (cs : List Value) (T kt : Nat) : List (Addr × Obj) := [(c.e, enumO .none (.ref c.it) (.ofNat (j + 1)) (.ref rf)), (c.it, tiO 77 (.ofNat (j + 1))), (c.L, fr), (c.pl, liS cs j), (T, tupO [.int (.ofNat j) kt, .ref rf])]
noncomputable def PF (w : World) (h₀ : Heap) (g : Array GenState) (d : Drawn) (os : OsState) (c : FC) (R : Result → Shared → Prop) (j : Nat) (F1 : FV → Obj) : Prop :=
  ∀ h t x s old, 1 ≤ t → Lg [] h₀ h (fmLf c j old (F1 x) (chF c.ch s j)) → codeAny (model pr w) (An 510 5100) (.forLoop (fmT w) (.ref c.e) (fmB w) [] (fmEnv w c.L)) R ⟨h, g, d, t, os⟩
theorem Lg.left {xs : List Addr} {h₀ h : Heap} {a b : List (Addr × Obj)} (D : Lg xs h₀ h (a ++ b)) : Lg xs h₀ h a :=
  D.sub (fun p hp => List.mem_append.mpr (.inl hp)) (by
    have nd := D.nd
    unfold keysOf at nd ⊢
    rw [List.map_append] at nd
    exact (List.nodup_append.mp nd).1)
section
variable {w : World} {h₀ : Heap} {g : Array GenState} {d : Drawn} {os : OsState} {c : FC} {R : Result → Shared → Prop}
noncomputable def fmQ (w : World) (c : FC) (R : Result → Shared → Prop) (f : Flow) (s : Shared) : Prop := f = .next ∧ codeAny (model pr w) (An 510 5100) (.forLoop (fmT w) (.ref c.e) (fmB w) [] (fmEnv w c.L)) R s
noncomputable def rnN (w : World) (g : Array GenState) (d : Drawn) (os : OsState) (c : FC) (l : List (Addr × Obj)) (osN : List Nat) (h : Heap) : RanT := ranT pr w 111 1 (ktA w) l 510 5100 0 0 h g d os (fun _ => none) NoE encO (PySem.W.ZFast.zw9404975358583537561 (.ref c.e)) 1000 (fun _ _ _ => osN)
noncomputable def rnA (w : World) (g : Array GenState) (d : Drawn) (os : OsState) (c : FC) (l : List (Addr × Obj)) (osA : List Nat) (T : Nat) (h : Heap) : RanT := ranT pr w 111 1 (ktA w) l 510 5100 0 0 h g d os (fun _ => none) NoE encU (PySem.W.ZFast.zw17772580674575903948 (fmT w) (fmEnv w c.L) (.ref T)) 1000 (fun _ _ _ => osA)
noncomputable def rnB (w : World) (g : Array GenState) (d : Drawn) (os : OsState) (c : FC) (l : List (Addr × Obj)) (osB : List Nat) (path : List (Int × Int × Bool)) (h : Heap) : RanT := ranT pr w 111 1 (ktA w) l 510 5100 800 8000 h g d os (pathHook c.m path) NoE encF' (PySem.W.ZFast.zw12563942051412417395 (fmB w) (fmEnv w c.L)) 3000 (fun _ _ _ => osB)
theorem fm_step (j rf : Nat) (osN osA tsA : List Nat) (F1 : FV → Obj) (F2 : FV → Nat → List Nat → Obj) (hT : TopOf (ktA w) h₀) (hn : 111 ≤ h₀.objs.size)
    (HN : ∀ h x s old b1 b2 b3, tellT1 (rnN w g d os c (fmLf c j old (F1 x) (chF c.ch s j)) osN h) 4 [4] b1 b2 b3 = tellT2 (rnN w g d os c (fmLf c j old (F1 x) (chF c.ch s j)) osN h) (fmLf c j old (F1 x) (chF c.ch s j)) 111 1 encO [4] [0] (fun _ av => some (.ref (av.getD 0 0))) (fun _ av => [enumO (rawInt (av.getD 0 0)) (.ref c.it) (.ofNat (j + 1)) (.ref rf), tiO 77 (.ofNat (j + 1)), F1 x, liS (chF c.ch s j) j]) (fun tv _ => [tupO [.int (.ofNat j) (tv.getD 0 0), .ref rf]]) b1 b2 b3)
    (HA : ∀ h x s T kt b1 b2 b3, tellT1 (rnA w g d os c (fmLt c j rf (F1 x) (chF c.ch s j) T kt) osA T h) 5 [] b1 b2 b3 = tellT2 (rnA w g d os c (fmLt c j rf (F1 x) (chF c.ch s j) T kt) osA T h) (fmLt c j rf (F1 x) (chF c.ch s j) T kt) 111 1 encU [] tsA (fun _ _ => ()) (fun tv _ => (fmLt c j rf (F2 x kt tv) (chF c.ch s j) T kt).map (·.2)) (fun _ _ => []) b1 b2 b3)
    (HB : ∀ h t x s T kt tv, 1 ≤ t → Lg [] h₀ h (fmLt c j rf (F2 x kt tv) (chF c.ch s j) T kt) → wpAny (model pr w) (An 510 5100) (execs (fmB w) (fmEnv w c.L)) (fmQ w c R) NoE ⟨h, g, d, t, os⟩) : PF w h₀ g d os c R j F1 := by
  intro h t x s old ht D
  refine for_one (tw_pyNext ?_)
  refine led_g0 encO 1000 osN [4] [0] (fun _ av => some (.ref (av.getD 0 0))) (fun _ av => [enumO (rawInt (av.getD 0 0)) (.ref c.it) (.ofNat (j + 1)) (.ref rf), tiO 77 (.ofNat (j + 1)), F1 x, liS (chF c.ch s j) j]) (fun tv _ => [tupO [.int (.ofNat j) (tv.getD 0 0), .ref rf]]) D (D.top hT) hn (ktA_bound w) (fun _ h => nomatch h) ht encO_inj rfl (fun _ _ => rfl) (fun _ _ => rfl) (by decide) rfl (HN h x s old) fun h1 t1 tv av htv hav D1 hT1 ht1 _ => ?_
  obtain ⟨T, rfl⟩ : ∃ L, av = [L] := List.length_eq_one_iff.mp hav
  obtain ⟨kt, rfl⟩ : ∃ k, tv = [k] := List.length_eq_one_iff.mp htv
  replace D1 : Lg [] h₀ h1 ((c.e, enumO (rawInt T) (.ref c.it) (.ofNat (j + 1)) (.ref rf)) :: [(c.it, tiO 77 (.ofNat (j + 1))), (c.L, F1 x), (c.pl, liS (chF c.ch s j) j), (T, tupO [.int (.ofNat j) kt, .ref rf])]) := D1
  show wpAny _ _ (letOwnedTupleGo (fmT w) (.ref c.e) (.ref T)) _ _ _
  rw [fmT_eq]
  refine own_enum D1 fun h2 D2 => ?_
  rw [← fmT_eq]
  refine tw_assign ?_
  refine led_g0 encU 1000 osA [] tsA (fun _ _ => ()) (fun tv _ => (fmLt c j rf (F2 x kt tv) (chF c.ch s j) T kt).map (·.2)) (fun _ _ => []) (l := fmLt c j rf (F1 x) (chF c.ch s j) T kt) D2 (D2.top hT) hn (ktA_bound w) (fun _ h => nomatch h) ht1 encU_inj rfl (fun _ _ => rfl) (fun _ _ => rfl) List.nodup_nil rfl (HA h2 x s T kt) fun h3 t3 tv av htv hav D3 hT3 ht3 _ => ?_
  rw [List.length_eq_zero_iff.mp hav] at D3
  refine wpAny_mono (HB h3 t3 x s T kt tv ht3 D3) (fun f s' hx => ?_) fun _ _ x => x
  obtain ⟨rfl, hx⟩ := hx
  exact hx
theorem fm_way {h : Heap} {t : Nat} {s : Nat → Nat} {T kt : Nat} {F2 : Obj} (j rf : Nat) (path : List (Int × Int × Bool)) (osB tsB : List Nat) (lit : Nat) (tok : List Nat → Nat) (x' : List Nat → FV) (N : PF w h₀ g d os c R (j + 1) (fmFv w c)) (hT : TopOf (ktA w) h₀) (hn : 111 ≤ h₀.objs.size) (ht : 1 ≤ t) (D : Lg [] h₀ h (fmLt c j rf F2 (chF c.ch s j) T kt)) (hp : PathOk c.m path) (hc : c.ch j = lit)
    (H : ∀ b1 b2 b3, tellT1 (rnB w g d os c (fmLt c j rf F2 (chF c.ch s j) T kt) osB path h) 5 [] b1 b2 b3 = tellT2 (rnB w g d os c (fmLt c j rf F2 (chF c.ch s j) T kt) osB path h) (fmLt c j rf F2 (chF c.ch s j) T kt) 111 1 encF' [] tsB (fun _ _ => .next) (fun tv _ => [enumO .none (.ref c.it) (.ofNat (j + 1)) (.ref rf), tiO 77 (.ofNat (j + 1)), fmFv w c (x' tv), liS (chF c.ch s j ++ [.str ⟨#[lit]⟩ (tok tv)]) (j + 1), tupO [.int (.ofNat j) kt, .ref rf]]) (fun _ _ => []) b1 b2 b3) :
    wpAny (model pr w) (An 510 5100) (execs (fmB w) (fmEnv w c.L)) (fmQ w c R) NoE ⟨h, g, d, t, os⟩ := by
  refine tw_execs ?_
  refine led_go (dm := 800) (um := 8000) (hook := pathHook c.m path) encF' 3000 osB [] tsB (fun _ _ => .next) (fun tv _ => [enumO .none (.ref c.it) (.ofNat (j + 1)) (.ref rf), tiO 77 (.ofNat (j + 1)), fmFv w c (x' tv), liS (chF c.ch s j ++ [.str ⟨#[lit]⟩ (tok tv)]) (j + 1), tupO [.int (.ofNat j) kt, .ref rf]]) (fun _ _ => []) D (D.top hT) hn (ktA_bound w) (fun _ h => nomatch h) ht encF'_inj (path_hook w hp) rfl (fun _ _ => rfl) (fun _ _ => rfl) List.nodup_nil rfl H fun h' t' tv av htv hav D' hT' ht' _ => ?_
  rw [List.length_eq_zero_iff.mp hav] at D'
  refine ⟨rfl, N h' t' (x' tv) (fun i => cond (Nat.beq i j) (tok tv) (s i)) (.ref rf) ht' ?_⟩
  rw [← chF_snoc, hc]
  exact Lg.left (b := [(T, tupO [.int (.ofNat j) kt, .ref rf])]) D'
noncomputable def fmTab0 : List (Int × Int × Nat) := [(61440, 40960, 108), (61440, 49152, 115), (61440, 32768, 45), (61440, 24576, 98), (61440, 16384, 100), (61440, 8192, 99), (61440, 4096, 112)]
noncomputable def fmTab1 : List (Int × Int × Nat) := [(256, 256, 114)]
noncomputable def fmTab2 : List (Int × Int × Nat) := [(128, 128, 119)]
noncomputable def fmTab3 : List (Int × Int × Nat) := [(2112, 2112, 115), (2048, 2048, 83), (64, 64, 120)]
noncomputable def fmTab4 : List (Int × Int × Nat) := [(32, 32, 114)]
noncomputable def fmTab5 : List (Int × Int × Nat) := [(16, 16, 119)]
noncomputable def fmTab6 : List (Int × Int × Nat) := [(1032, 1032, 115), (1024, 1024, 83), (8, 8, 120)]
noncomputable def fmTab7 : List (Int × Int × Nat) := [(4, 4, 114)]
noncomputable def fmTab8 : List (Int × Int × Nat) := [(2, 2, 119)]
noncomputable def fmTab9 : List (Int × Int × Nat) := [(513, 513, 116), (512, 512, 84), (1, 1, 120)]
theorem fm_P0 (hT : TopOf (ktA w) h₀) (hn : 111 ≤ h₀.objs.size) (hc : c.ch 0 = pickC c.m 63 fmTab0) (N : PF w h₀ g d os c R 1 (fmFv w c)) : PF w h₀ g d os c R 0 (fun _ => fmF1 w c.m c.tm c.k0 c.k1 c.pl) :=
  fm_step 0 52 (dec9 24 0x80402010080402010080402010080406030000c0603018040201) (dec9 31 0x140a050283c160b0482c160b0582c16090582c160b0582c120b0582c160b048241209) [0, 1] (fun _ => fmF1 w c.m c.tm c.k0 c.k1 c.pl) (fun x kt tv => fmF2 w c.m c.tm c.pl c.k0 c.k1 (tv.getD 0 0) (tv.getD 1 0) (.int (.ofNat 0) kt) (.ref 52)) hT hn (fun h x s old => orc1 (by kernel_rfl)) (fun h x s T kt => orc1 (by kernel_rfl)) fun h t x s T kt tv ht D => ways fmTab0 [] (fun _ h => nomatch h) ⟨fun hp => fm_way 0 52 [(40960, 61440, true)] (dec9 65 0x70381c0e050381c0e070281426000984c0000000140005028140a05088341a00068341a0d06834000d068341a0d068001a0d068341a0000000000b0582c000b0582c160b000000005) [0, 1] 108 (fun _ => 268) (fun u => ⟨tv.getD 0 0, tv.getD 1 0, u.getD 0 0, u.getD 1 0, .int (.ofNat 0) kt, .ref 52, .int 40960 240, .str ⟨#[108]⟩ 268⟩) N hT hn ht D hp (hc.trans (pick_path hp rfl)) (orc1 (by kernel_rfl)),
    fun hp => fm_way 0 52 [(40960, 61440, false), (49152, 61440, true)] (dec9 115 0x1c0e07038140e070381c0a050d800361b000000005000140a050281432150a8002a150a8542a15000542a150a8542a000a8542a150a80000000002c160b0002c160b0581426000984c0000000140005028140a05088341a00068341a0d06834000d068341a0d068001a0d068341a0000000000b0582c000b0582c160b000000005) [0, 1] 115 (fun _ => 269) (fun u => ⟨tv.getD 0 0, tv.getD 1 0, u.getD 0 0, u.getD 1 0, .int (.ofNat 0) kt, .ref 52, .int 49152 242, .str ⟨#[115]⟩ 269⟩) N hT hn ht D hp (hc.trans (pick_path hp rfl)) (orc1 (by kernel_rfl)),
    fun hp => fm_way 0 52 [(40960, 61440, false), (49152, 61440, false), (32768, 61440, true)] (dec9 165 0x70381c0e050381c0e070281446001188c0000000140005028140a05108743a000e8743a1d0e874001d0e8743a1d0e8003a1d0e8743a0000000000b0582c000b0582c16050d800361b000000005000140a050281432150a8002a150a8542a15000542a150a8542a000a8542a150a80000000002c160b0002c160b0581426000984c0000000140005028140a05088341a00068341a0d06834000d068341a0d068001a0d068341a0000000000b0582c000b0582c160b000000005) [0, 1] 45 (fun _ => 270) (fun u => ⟨tv.getD 0 0, tv.getD 1 0, u.getD 0 0, u.getD 1 0, .int (.ofNat 0) kt, .ref 52, .int 32768 236, .str ⟨#[45]⟩ 270⟩) N hT hn ht D hp (hc.trans (pick_path hp rfl)) (orc1 (by kernel_rfl)),
    fun hp => fm_way 0 52 [(40960, 61440, false), (49152, 61440, false), (32768, 61440, false), (24576, 61440, true)] (dec9 215 0x1c0e07038140e070381c0a0515800562b000000005000140a05028145225128004a25128944a25000944a25128944a00128944a251280000000002c160b0002c160b0581446001188c0000000140005028140a05108743a000e8743a1d0e874001d0e8743a1d0e8003a1d0e8743a0000000000b0582c000b0582c16050d800361b000000005000140a050281432150a8002a150a8542a15000542a150a8542a000a8542a150a80000000002c160b0002c160b0581426000984c0000000140005028140a05088341a00068341a0d06834000d068341a0d068001a0d068341a0000000000b0582c000b0582c160b000000005) [0, 1] 98 (fun _ => 271) (fun u => ⟨tv.getD 0 0, tv.getD 1 0, u.getD 0 0, u.getD 1 0, .int (.ofNat 0) kt, .ref 52, .int 24576 234, .str ⟨#[98]⟩ 271⟩) N hT hn ht D hp (hc.trans (pick_path hp rfl)) (orc1 (by kernel_rfl)),
    fun hp => fm_way 0 52 [(40960, 61440, false), (49152, 61440, false), (32768, 61440, false), (24576, 61440, false), (16384, 61440, true)] (dec9 265 0x70381c0e050381c0e07028146600198cc0000000140005028140a05188b45a00168b45a2d168b4002d168b45a2d168005a2d168b45a0000000000b0582c000b0582c160515800562b000000005000140a05028145225128004a25128944a25000944a25128944a00128944a251280000000002c160b0002c160b0581446001188c0000000140005028140a05108743a000e8743a1d0e874001d0e8743a1d0e8003a1d0e8743a0000000000b0582c000b0582c16050d800361b000000005000140a050281432150a8002a150a8542a15000542a150a8542a000a8542a150a80000000002c160b0002c160b0581426000984c0000000140005028140a05088341a00068341a0d06834000d068341a0d068001a0d068341a0000000000b0582c000b0582c160b000000005) [0, 1] 100 (fun _ => 272) (fun u => ⟨tv.getD 0 0, tv.getD 1 0, u.getD 0 0, u.getD 1 0, .int (.ofNat 0) kt, .ref 52, .int 16384 230, .str ⟨#[100]⟩ 272⟩) N hT hn ht D hp (hc.trans (pick_path hp rfl)) (orc1 (by kernel_rfl)),
    fun hp => fm_way 0 52 [(40960, 61440, false), (49152, 61440, false), (32768, 61440, false), (24576, 61440, false), (16384, 61440, false), (8192, 61440, true)] (dec9 315 0x1c0e07038140e070381c0a051d800763b000000005000140a050281472351a8006a351a8d46a35000d46a351a8d46a001a8d46a351a80000000002c160b0002c160b058146600198cc0000000140005028140a05188b45a00168b45a2d168b4002d168b45a2d168005a2d168b45a0000000000b0582c000b0582c160515800562b000000005000140a05028145225128004a25128944a25000944a25128944a00128944a251280000000002c160b0002c160b0581446001188c0000000140005028140a05108743a000e8743a1d0e874001d0e8743a1d0e8003a1d0e8743a0000000000b0582c000b0582c16050d800361b000000005000140a050281432150a8002a150a8542a15000542a150a8542a000a8542a150a80000000002c160b0002c160b0581426000984c0000000140005028140a05088341a00068341a0d06834000d068341a0d068001a0d068341a0000000000b0582c000b0582c160b000000005) [0, 1] 99 (fun _ => 273) (fun u => ⟨tv.getD 0 0, tv.getD 1 0, u.getD 0 0, u.getD 1 0, .int (.ofNat 0) kt, .ref 52, .int 8192 232, .str ⟨#[99]⟩ 273⟩) N hT hn ht D hp (hc.trans (pick_path hp rfl)) (orc1 (by kernel_rfl)),
    fun hp => fm_way 0 52 [(40960, 61440, false), (49152, 61440, false), (32768, 61440, false), (24576, 61440, false), (16384, 61440, false), (8192, 61440, false), (4096, 61440, true)] (dec9 365 0x70381c0e050381c0e070281486002190c0000000140005028140a05208f47a001e8f47a3d1e8f4003d1e8f47a3d1e8007a3d1e8f47a0000000000b0582c000b0582c16051d800763b000000005000140a050281472351a8006a351a8d46a35000d46a351a8d46a001a8d46a351a80000000002c160b0002c160b058146600198cc0000000140005028140a05188b45a00168b45a2d168b4002d168b45a2d168005a2d168b45a0000000000b0582c000b0582c160515800562b000000005000140a05028145225128004a25128944a25000944a25128944a00128944a251280000000002c160b0002c160b0581446001188c0000000140005028140a05108743a000e8743a1d0e874001d0e8743a1d0e8003a1d0e8743a0000000000b0582c000b0582c16050d800361b000000005000140a050281432150a8002a150a8542a15000542a150a8542a000a8542a150a80000000002c160b0002c160b0581426000984c0000000140005028140a05088341a00068341a0d06834000d068341a0d068001a0d068341a0000000000b0582c000b0582c160b000000005) [0, 1] 112 (fun _ => 274) (fun u => ⟨tv.getD 0 0, tv.getD 1 0, u.getD 0 0, u.getD 1 0, .int (.ofNat 0) kt, .ref 52, .int 4096 238, .str ⟨#[112]⟩ 274⟩) N hT hn ht D hp (hc.trans (pick_path hp rfl)) (orc1 (by kernel_rfl)),
    fun hp => fm_way 0 52 [(40960, 61440, false), (49152, 61440, false), (32768, 61440, false), (24576, 61440, false), (16384, 61440, false), (8192, 61440, false), (4096, 61440, false)] (dec9 373 0x70381c0e070381c0e050291c160b0002c160b0581486002190c0000000140005028140a05208f47a001e8f47a3d1e8f4003d1e8f47a3d1e8007a3d1e8f47a0000000000b0582c000b0582c16051d800763b000000005000140a050281472351a8006a351a8d46a35000d46a351a8d46a001a8d46a351a80000000002c160b0002c160b058146600198cc0000000140005028140a05188b45a00168b45a2d168b4002d168b45a2d168005a2d168b45a0000000000b0582c000b0582c160515800562b000000005000140a05028145225128004a25128944a25000944a25128944a00128944a251280000000002c160b0002c160b0581446001188c0000000140005028140a05108743a000e8743a1d0e874001d0e8743a1d0e8003a1d0e8743a0000000000b0582c000b0582c16050d800361b000000005000140a050281432150a8002a150a8542a15000542a150a8542a000a8542a150a80000000002c160b0002c160b0581426000984c0000000140005028140a05088341a00068341a0d06834000d068341a0d068001a0d068341a0000000000b0582c000b0582c160b000000005) [0, 1, 43] 63 (fun tv => tv.getD 2 0) (fun u => ⟨tv.getD 0 0, tv.getD 1 0, u.getD 0 0, u.getD 1 0, .int (.ofNat 0) kt, .ref 52, .int 4096 238, .str ⟨#[112]⟩ 274⟩) N hT hn ht D hp (hc.trans (pick_path hp rfl)) (orc1 (by kernel_rfl))⟩
theorem fm_P1 (hT : TopOf (ktA w) h₀) (hn : 111 ≤ h₀.objs.size) (hc : c.ch 1 = pickC c.m 45 fmTab1) (N : PF w h₀ g d os c R 2 (fmFv w c)) : PF w h₀ g d os c R 1 (fmFv w c) :=
  fm_step 1 54 (dec9 24 0x80402010080402010080402010080406030000c0603018040201) (dec9 31 0x140a050283c160b0482c160b0582c16090582c160b0582c120b0582c160b048241209) [] (fmFv w c) (fun x kt _ => fmFv w c ⟨x.k2, x.k3, x.k4, x.k5, .int (.ofNat 1) kt, .ref 54, x.vb, x.vc⟩) hT hn (fun h x s old => orc1 (by kernel_rfl)) (fun h x s T kt => orc1 (by kernel_rfl)) fun h t x s T kt tv ht D => ways fmTab1 [] (fun _ h => nomatch h) ⟨fun hp => fm_way 1 54 [(256, 256, true)] (dec9 58 0xe070381c0a070381c0e05028140a05028140a05088341a00068341a0d06834000d068341a0d068001a0d068341a0000000000b0582c000b0582c160b000000005) [] 114 (fun _ => 275) (fun _ => ⟨x.k2, x.k3, x.k4, x.k5, .int (.ofNat 1) kt, .ref 54, .int 256 250, .str ⟨#[114]⟩ 275⟩) N hT hn ht D hp (hc.trans (pick_path hp rfl)) (orc1 (by kernel_rfl)),
    fun hp => fm_way 1 54 [(256, 256, false)] (dec9 66 0xe070381c0e070381c0a050a82c16000582c160b028140a05028140a05088341a00068341a0d06834000d068341a0d068001a0d068341a0000000000b0582c000b0582c160b000000005) [5] 45 (fun tv => tv.getD 0 0) (fun _ => ⟨x.k2, x.k3, x.k4, x.k5, .int (.ofNat 1) kt, .ref 54, .int 256 250, .str ⟨#[114]⟩ 275⟩) N hT hn ht D hp (hc.trans (pick_path hp rfl)) (orc1 (by kernel_rfl))⟩
theorem fm_P2 (hT : TopOf (ktA w) h₀) (hn : 111 ≤ h₀.objs.size) (hc : c.ch 2 = pickC c.m 45 fmTab2) (N : PF w h₀ g d os c R 3 (fmFv w c)) : PF w h₀ g d os c R 2 (fmFv w c) :=
  fm_step 2 56 (dec9 24 0x80402010080402010080402010080406030000c0603018040201) (dec9 31 0x140a050283c160b0482c160b0582c16090582c160b0582c120b0582c160b048241209) [] (fmFv w c) (fun x kt _ => fmFv w c ⟨x.k2, x.k3, x.k4, x.k5, .int (.ofNat 2) kt, .ref 56, x.vb, x.vc⟩) hT hn (fun h x s old => orc1 (by kernel_rfl)) (fun h x s T kt => orc1 (by kernel_rfl)) fun h t x s T kt tv ht D => ways fmTab2 [] (fun _ h => nomatch h) ⟨fun hp => fm_way 2 56 [(128, 128, true)] (dec9 58 0xe070381c0a070381c0e05028140a05028140a05088341a00068341a0d06834000d068341a0d068001a0d068341a0000000000b0582c000b0582c160b000000005) [] 119 (fun _ => 276) (fun _ => ⟨x.k2, x.k3, x.k4, x.k5, .int (.ofNat 2) kt, .ref 56, .int 128 252, .str ⟨#[119]⟩ 276⟩) N hT hn ht D hp (hc.trans (pick_path hp rfl)) (orc1 (by kernel_rfl)),
    fun hp => fm_way 2 56 [(128, 128, false)] (dec9 66 0xe070381c0e070381c0a050a82c16000582c160b028140a05028140a05088341a00068341a0d06834000d068341a0d068001a0d068341a0000000000b0582c000b0582c160b000000005) [5] 45 (fun tv => tv.getD 0 0) (fun _ => ⟨x.k2, x.k3, x.k4, x.k5, .int (.ofNat 2) kt, .ref 56, .int 128 252, .str ⟨#[119]⟩ 276⟩) N hT hn ht D hp (hc.trans (pick_path hp rfl)) (orc1 (by kernel_rfl))⟩
theorem fm_P3 (hT : TopOf (ktA w) h₀) (hn : 111 ≤ h₀.objs.size) (hc : c.ch 3 = pickC c.m 45 fmTab3) (N : PF w h₀ g d os c R 4 (fmFv w c)) : PF w h₀ g d os c R 3 (fmFv w c) :=
  fm_step 3 60 (dec9 24 0x80402010080402010080402010080406030000c0603018040201) (dec9 31 0x140a050283c160b0482c160b0582c16090582c160b0582c120b0582c160b048241209) [] (fmFv w c) (fun x kt _ => fmFv w c ⟨x.k2, x.k3, x.k4, x.k5, .int (.ofNat 3) kt, .ref 60, x.vb, x.vc⟩) hT hn (fun h x s old => orc1 (by kernel_rfl)) (fun h x s T kt => orc1 (by kernel_rfl)) fun h t x s T kt tv ht D => ways fmTab3 [] (fun _ h => nomatch h) ⟨fun hp => fm_way 3 60 [(2112, 2112, true)] (dec9 58 0xe070381c0a070381c0e05028140a05028140a05088341a00068341a0d06834000d068341a0d068001a0d068341a0000000000b0582c000b0582c160b000000005) [] 115 (fun _ => 278) (fun _ => ⟨x.k2, x.k3, x.k4, x.k5, .int (.ofNat 3) kt, .ref 60, .int 2112 277, .str ⟨#[115]⟩ 278⟩) N hT hn ht D hp (hc.trans (pick_path hp rfl)) (orc1 (by kernel_rfl)),
    fun hp => fm_way 3 60 [(2112, 2112, false), (2048, 2048, true)] (dec9 101 0x70381c0e050381c0e07028140a05028140a050285c26130004c26130984c26000984c26130984c00130984c26130000000000582c16000582c160b028140a05028140a05088341a00068341a0d06834000d068341a0d068001a0d068341a0000000000b0582c000b0582c160b000000005) [] 83 (fun _ => 279) (fun _ => ⟨x.k2, x.k3, x.k4, x.k5, .int (.ofNat 3) kt, .ref 60, .int 2048 244, .str ⟨#[83]⟩ 279⟩) N hT hn ht D hp (hc.trans (pick_path hp rfl)) (orc1 (by kernel_rfl)),
    fun hp => fm_way 3 60 [(2112, 2112, false), (2048, 2048, false), (64, 64, true)] (dec9 144 0x381c0e070281c0e07038140a05028140a05028143a190c80032190c86432190006432190c86432000c86432190c80000000002c160b0002c160b058140a05028140a050285c26130004c26130984c26000984c26130984c00130984c26130000000000582c16000582c160b028140a05028140a05088341a00068341a0d06834000d068341a0d068001a0d068341a0000000000b0582c000b0582c160b000000005) [] 120 (fun _ => 280) (fun _ => ⟨x.k2, x.k3, x.k4, x.k5, .int (.ofNat 3) kt, .ref 60, .int 64 254, .str ⟨#[120]⟩ 280⟩) N hT hn ht D hp (hc.trans (pick_path hp rfl)) (orc1 (by kernel_rfl)),
    fun hp => fm_way 3 60 [(2112, 2112, false), (2048, 2048, false), (64, 64, false)] (dec9 152 0x381c0e070381c0e0702814420b05800160b0582c0a05028140a05028143a190c80032190c86432190006432190c86432000c86432190c80000000002c160b0002c160b058140a05028140a050285c26130004c26130984c26000984c26130984c00130984c26130000000000582c16000582c160b028140a05028140a05088341a00068341a0d06834000d068341a0d068001a0d068341a0000000000b0582c000b0582c160b000000005) [13] 45 (fun tv => tv.getD 0 0) (fun _ => ⟨x.k2, x.k3, x.k4, x.k5, .int (.ofNat 3) kt, .ref 60, .int 64 254, .str ⟨#[120]⟩ 280⟩) N hT hn ht D hp (hc.trans (pick_path hp rfl)) (orc1 (by kernel_rfl))⟩
theorem fm_P4 (hT : TopOf (ktA w) h₀) (hn : 111 ≤ h₀.objs.size) (hc : c.ch 4 = pickC c.m 45 fmTab4) (N : PF w h₀ g d os c R 5 (fmFv w c)) : PF w h₀ g d os c R 4 (fmFv w c) :=
  fm_step 4 62 (dec9 24 0x80402010080402010080402010080406030000c0603018040201) (dec9 31 0x140a050283c160b0482c160b0582c16090582c160b0582c120b0582c160b048241209) [] (fmFv w c) (fun x kt _ => fmFv w c ⟨x.k2, x.k3, x.k4, x.k5, .int (.ofNat 4) kt, .ref 62, x.vb, x.vc⟩) hT hn (fun h x s old => orc1 (by kernel_rfl)) (fun h x s T kt => orc1 (by kernel_rfl)) fun h t x s T kt tv ht D => ways fmTab4 [] (fun _ h => nomatch h) ⟨fun hp => fm_way 4 62 [(32, 32, true)] (dec9 58 0xe070381c0a070381c0e05028140a05028140a05088341a00068341a0d06834000d068341a0d068001a0d068341a0000000000b0582c000b0582c160b000000005) [] 114 (fun _ => 281) (fun _ => ⟨x.k2, x.k3, x.k4, x.k5, .int (.ofNat 4) kt, .ref 62, .int 32 256, .str ⟨#[114]⟩ 281⟩) N hT hn ht D hp (hc.trans (pick_path hp rfl)) (orc1 (by kernel_rfl)),
    fun hp => fm_way 4 62 [(32, 32, false)] (dec9 66 0xe070381c0e070381c0a050a82c16000582c160b028140a05028140a05088341a00068341a0d06834000d068341a0d068001a0d068341a0000000000b0582c000b0582c160b000000005) [5] 45 (fun tv => tv.getD 0 0) (fun _ => ⟨x.k2, x.k3, x.k4, x.k5, .int (.ofNat 4) kt, .ref 62, .int 32 256, .str ⟨#[114]⟩ 281⟩) N hT hn ht D hp (hc.trans (pick_path hp rfl)) (orc1 (by kernel_rfl))⟩
theorem fm_P5 (hT : TopOf (ktA w) h₀) (hn : 111 ≤ h₀.objs.size) (hc : c.ch 5 = pickC c.m 45 fmTab5) (N : PF w h₀ g d os c R 6 (fmFv w c)) : PF w h₀ g d os c R 5 (fmFv w c) :=
  fm_step 5 64 (dec9 24 0x80402010080402010080402010080406030000c0603018040201) (dec9 31 0x140a050283c160b0482c160b0582c16090582c160b0582c120b0582c160b048241209) [] (fmFv w c) (fun x kt _ => fmFv w c ⟨x.k2, x.k3, x.k4, x.k5, .int (.ofNat 5) kt, .ref 64, x.vb, x.vc⟩) hT hn (fun h x s old => orc1 (by kernel_rfl)) (fun h x s T kt => orc1 (by kernel_rfl)) fun h t x s T kt tv ht D => ways fmTab5 [] (fun _ h => nomatch h) ⟨fun hp => fm_way 5 64 [(16, 16, true)] (dec9 58 0xe070381c0a070381c0e05028140a05028140a05088341a00068341a0d06834000d068341a0d068001a0d068341a0000000000b0582c000b0582c160b000000005) [] 119 (fun _ => 282) (fun _ => ⟨x.k2, x.k3, x.k4, x.k5, .int (.ofNat 5) kt, .ref 64, .int 16 258, .str ⟨#[119]⟩ 282⟩) N hT hn ht D hp (hc.trans (pick_path hp rfl)) (orc1 (by kernel_rfl)),
    fun hp => fm_way 5 64 [(16, 16, false)] (dec9 66 0xe070381c0e070381c0a050a82c16000582c160b028140a05028140a05088341a00068341a0d06834000d068341a0d068001a0d068341a0000000000b0582c000b0582c160b000000005) [5] 45 (fun tv => tv.getD 0 0) (fun _ => ⟨x.k2, x.k3, x.k4, x.k5, .int (.ofNat 5) kt, .ref 64, .int 16 258, .str ⟨#[119]⟩ 282⟩) N hT hn ht D hp (hc.trans (pick_path hp rfl)) (orc1 (by kernel_rfl))⟩
theorem fm_P6 (hT : TopOf (ktA w) h₀) (hn : 111 ≤ h₀.objs.size) (hc : c.ch 6 = pickC c.m 45 fmTab6) (N : PF w h₀ g d os c R 7 (fmFv w c)) : PF w h₀ g d os c R 6 (fmFv w c) :=
  fm_step 6 68 (dec9 24 0x80402010080402010080402010080406030000c0603018040201) (dec9 31 0x140a050283c160b0482c160b0582c16090582c160b0582c120b0582c160b048241209) [] (fmFv w c) (fun x kt _ => fmFv w c ⟨x.k2, x.k3, x.k4, x.k5, .int (.ofNat 6) kt, .ref 68, x.vb, x.vc⟩) hT hn (fun h x s old => orc1 (by kernel_rfl)) (fun h x s T kt => orc1 (by kernel_rfl)) fun h t x s T kt tv ht D => ways fmTab6 [] (fun _ h => nomatch h) ⟨fun hp => fm_way 6 68 [(1032, 1032, true)] (dec9 58 0xe070381c0a070381c0e05028140a05028140a05088341a00068341a0d06834000d068341a0d068001a0d068341a0000000000b0582c000b0582c160b000000005) [] 115 (fun _ => 284) (fun _ => ⟨x.k2, x.k3, x.k4, x.k5, .int (.ofNat 6) kt, .ref 68, .int 1032 283, .str ⟨#[115]⟩ 284⟩) N hT hn ht D hp (hc.trans (pick_path hp rfl)) (orc1 (by kernel_rfl)),
    fun hp => fm_way 6 68 [(1032, 1032, false), (1024, 1024, true)] (dec9 101 0x70381c0e050381c0e07028140a05028140a050285c26130004c26130984c26000984c26130984c00130984c26130000000000582c16000582c160b028140a05028140a05088341a00068341a0d06834000d068341a0d068001a0d068341a0000000000b0582c000b0582c160b000000005) [] 83 (fun _ => 285) (fun _ => ⟨x.k2, x.k3, x.k4, x.k5, .int (.ofNat 6) kt, .ref 68, .int 1024 246, .str ⟨#[83]⟩ 285⟩) N hT hn ht D hp (hc.trans (pick_path hp rfl)) (orc1 (by kernel_rfl)),
    fun hp => fm_way 6 68 [(1032, 1032, false), (1024, 1024, false), (8, 8, true)] (dec9 144 0x381c0e070281c0e07038140a05028140a05028143a190c80032190c86432190006432190c86432000c86432190c80000000002c160b0002c160b058140a05028140a050285c26130004c26130984c26000984c26130984c00130984c26130000000000582c16000582c160b028140a05028140a05088341a00068341a0d06834000d068341a0d068001a0d068341a0000000000b0582c000b0582c160b000000005) [] 120 (fun _ => 286) (fun _ => ⟨x.k2, x.k3, x.k4, x.k5, .int (.ofNat 6) kt, .ref 68, .int 8 260, .str ⟨#[120]⟩ 286⟩) N hT hn ht D hp (hc.trans (pick_path hp rfl)) (orc1 (by kernel_rfl)),
    fun hp => fm_way 6 68 [(1032, 1032, false), (1024, 1024, false), (8, 8, false)] (dec9 152 0x381c0e070381c0e0702814420b05800160b0582c0a05028140a05028143a190c80032190c86432190006432190c86432000c86432190c80000000002c160b0002c160b058140a05028140a050285c26130004c26130984c26000984c26130984c00130984c26130000000000582c16000582c160b028140a05028140a05088341a00068341a0d06834000d068341a0d068001a0d068341a0000000000b0582c000b0582c160b000000005) [13] 45 (fun tv => tv.getD 0 0) (fun _ => ⟨x.k2, x.k3, x.k4, x.k5, .int (.ofNat 6) kt, .ref 68, .int 8 260, .str ⟨#[120]⟩ 286⟩) N hT hn ht D hp (hc.trans (pick_path hp rfl)) (orc1 (by kernel_rfl))⟩
theorem fm_P7 (hT : TopOf (ktA w) h₀) (hn : 111 ≤ h₀.objs.size) (hc : c.ch 7 = pickC c.m 45 fmTab7) (N : PF w h₀ g d os c R 8 (fmFv w c)) : PF w h₀ g d os c R 7 (fmFv w c) :=
  fm_step 7 70 (dec9 24 0x80402010080402010080402010080406030000c0603018040201) (dec9 31 0x140a050283c160b0482c160b0582c16090582c160b0582c120b0582c160b048241209) [] (fmFv w c) (fun x kt _ => fmFv w c ⟨x.k2, x.k3, x.k4, x.k5, .int (.ofNat 7) kt, .ref 70, x.vb, x.vc⟩) hT hn (fun h x s old => orc1 (by kernel_rfl)) (fun h x s T kt => orc1 (by kernel_rfl)) fun h t x s T kt tv ht D => ways fmTab7 [] (fun _ h => nomatch h) ⟨fun hp => fm_way 7 70 [(4, 4, true)] (dec9 58 0xe070381c0a070381c0e05028140a05028140a05088341a00068341a0d06834000d068341a0d068001a0d068341a0000000000b0582c000b0582c160b000000005) [] 114 (fun _ => 287) (fun _ => ⟨x.k2, x.k3, x.k4, x.k5, .int (.ofNat 7) kt, .ref 70, .int 4 262, .str ⟨#[114]⟩ 287⟩) N hT hn ht D hp (hc.trans (pick_path hp rfl)) (orc1 (by kernel_rfl)),
    fun hp => fm_way 7 70 [(4, 4, false)] (dec9 66 0xe070381c0e070381c0a050a82c16000582c160b028140a05028140a05088341a00068341a0d06834000d068341a0d068001a0d068341a0000000000b0582c000b0582c160b000000005) [5] 45 (fun tv => tv.getD 0 0) (fun _ => ⟨x.k2, x.k3, x.k4, x.k5, .int (.ofNat 7) kt, .ref 70, .int 4 262, .str ⟨#[114]⟩ 287⟩) N hT hn ht D hp (hc.trans (pick_path hp rfl)) (orc1 (by kernel_rfl))⟩
theorem fm_P8 (hT : TopOf (ktA w) h₀) (hn : 111 ≤ h₀.objs.size) (hc : c.ch 8 = pickC c.m 45 fmTab8) (N : PF w h₀ g d os c R 9 (fmFv w c)) : PF w h₀ g d os c R 8 (fmFv w c) :=
  fm_step 8 72 (dec9 24 0x80402010080402010080402010080406030000c0603018040201) (dec9 31 0x140a050283c160b0482c160b0582c16090582c160b0582c120b0582c160b048241209) [] (fmFv w c) (fun x kt _ => fmFv w c ⟨x.k2, x.k3, x.k4, x.k5, .int (.ofNat 8) kt, .ref 72, x.vb, x.vc⟩) hT hn (fun h x s old => orc1 (by kernel_rfl)) (fun h x s T kt => orc1 (by kernel_rfl)) fun h t x s T kt tv ht D => ways fmTab8 [] (fun _ h => nomatch h) ⟨fun hp => fm_way 8 72 [(2, 2, true)] (dec9 58 0xe070381c0a070381c0e05028140a05028140a05088341a00068341a0d06834000d068341a0d068001a0d068341a0000000000b0582c000b0582c160b000000005) [] 119 (fun _ => 288) (fun _ => ⟨x.k2, x.k3, x.k4, x.k5, .int (.ofNat 8) kt, .ref 72, .int 2 264, .str ⟨#[119]⟩ 288⟩) N hT hn ht D hp (hc.trans (pick_path hp rfl)) (orc1 (by kernel_rfl)),
    fun hp => fm_way 8 72 [(2, 2, false)] (dec9 66 0xe070381c0e070381c0a050a82c16000582c160b028140a05028140a05088341a00068341a0d06834000d068341a0d068001a0d068341a0000000000b0582c000b0582c160b000000005) [5] 45 (fun tv => tv.getD 0 0) (fun _ => ⟨x.k2, x.k3, x.k4, x.k5, .int (.ofNat 8) kt, .ref 72, .int 2 264, .str ⟨#[119]⟩ 288⟩) N hT hn ht D hp (hc.trans (pick_path hp rfl)) (orc1 (by kernel_rfl))⟩
theorem fm_P9 (hT : TopOf (ktA w) h₀) (hn : 111 ≤ h₀.objs.size) (hc : c.ch 9 = pickC c.m 45 fmTab9) (N : PF w h₀ g d os c R 10 (fmFv w c)) : PF w h₀ g d os c R 9 (fmFv w c) :=
  fm_step 9 76 (dec9 24 0x80402010080402010080402010080406030000c0603018040201) (dec9 31 0x140a050283c160b0482c160b0582c16090582c160b0582c120b0582c160b048241209) [] (fmFv w c) (fun x kt _ => fmFv w c ⟨x.k2, x.k3, x.k4, x.k5, .int (.ofNat 9) kt, .ref 76, x.vb, x.vc⟩) hT hn (fun h x s old => orc1 (by kernel_rfl)) (fun h x s T kt => orc1 (by kernel_rfl)) fun h t x s T kt tv ht D => ways fmTab9 [] (fun _ h => nomatch h) ⟨fun hp => fm_way 9 76 [(513, 513, true)] (dec9 58 0xe070381c0a070381c0e05028140a05028140a05088341a00068341a0d06834000d068341a0d068001a0d068341a0000000000b0582c000b0582c160b000000005) [] 116 (fun _ => 290) (fun _ => ⟨x.k2, x.k3, x.k4, x.k5, .int (.ofNat 9) kt, .ref 76, .int 513 289, .str ⟨#[116]⟩ 290⟩) N hT hn ht D hp (hc.trans (pick_path hp rfl)) (orc1 (by kernel_rfl)),
    fun hp => fm_way 9 76 [(513, 513, false), (512, 512, true)] (dec9 101 0x70381c0e050381c0e07028140a05028140a050285c26130004c26130984c26000984c26130984c00130984c26130000000000582c16000582c160b028140a05028140a05088341a00068341a0d06834000d068341a0d068001a0d068341a0000000000b0582c000b0582c160b000000005) [] 84 (fun _ => 291) (fun _ => ⟨x.k2, x.k3, x.k4, x.k5, .int (.ofNat 9) kt, .ref 76, .int 512 248, .str ⟨#[84]⟩ 291⟩) N hT hn ht D hp (hc.trans (pick_path hp rfl)) (orc1 (by kernel_rfl)),
    fun hp => fm_way 9 76 [(513, 513, false), (512, 512, false), (1, 1, true)] (dec9 144 0x381c0e070281c0e07038140a05028140a05028143a190c80032190c86432190006432190c86432000c86432190c80000000002c160b0002c160b058140a05028140a050285c26130004c26130984c26000984c26130984c00130984c26130000000000582c16000582c160b028140a05028140a05088341a00068341a0d06834000d068341a0d068001a0d068341a0000000000b0582c000b0582c160b000000005) [] 120 (fun _ => 292) (fun _ => ⟨x.k2, x.k3, x.k4, x.k5, .int (.ofNat 9) kt, .ref 76, .int 1 266, .str ⟨#[120]⟩ 292⟩) N hT hn ht D hp (hc.trans (pick_path hp rfl)) (orc1 (by kernel_rfl)),
    fun hp => fm_way 9 76 [(513, 513, false), (512, 512, false), (1, 1, false)] (dec9 152 0x381c0e070381c0e0702814420b05800160b0582c0a05028140a05028143a190c80032190c86432190006432190c86432000c86432190c80000000002c160b0002c160b058140a05028140a050285c26130004c26130984c26000984c26130984c00130984c26130000000000582c16000582c160b028140a05028140a05088341a00068341a0d06834000d068341a0d068001a0d068341a0000000000b0582c000b0582c160b000000005) [13] 45 (fun tv => tv.getD 0 0) (fun _ => ⟨x.k2, x.k3, x.k4, x.k5, .int (.ofNat 9) kt, .ref 76, .int 1 266, .str ⟨#[120]⟩ 292⟩) N hT hn ht D hp (hc.trans (pick_path hp rfl)) (orc1 (by kernel_rfl))⟩
end
noncomputable abbrev fmC0 (m : Int) : Nat := pickC m 63 [(61440, 40960, 108), (61440, 49152, 115), (61440, 32768, 45), (61440, 24576, 98), (61440, 16384, 100), (61440, 8192, 99), (61440, 4096, 112)]
noncomputable abbrev fmC1 (m : Int) : Nat := pickC m 45 [(256, 256, 114)]
noncomputable abbrev fmC2 (m : Int) : Nat := pickC m 45 [(128, 128, 119)]
noncomputable abbrev fmC3 (m : Int) : Nat := pickC m 45 [(2112, 2112, 115), (2048, 2048, 83), (64, 64, 120)]
noncomputable abbrev fmC4 (m : Int) : Nat := pickC m 45 [(32, 32, 114)]
noncomputable abbrev fmC5 (m : Int) : Nat := pickC m 45 [(16, 16, 119)]
noncomputable abbrev fmC6 (m : Int) : Nat := pickC m 45 [(1032, 1032, 115), (1024, 1024, 83), (8, 8, 120)]
noncomputable abbrev fmC7 (m : Int) : Nat := pickC m 45 [(4, 4, 114)]
noncomputable abbrev fmC8 (m : Int) : Nat := pickC m 45 [(2, 2, 119)]
noncomputable abbrev fmC9 (m : Int) : Nat := pickC m 45 [(513, 513, 116), (512, 512, 84), (1, 1, 120)]
noncomputable def fmCh (m : Int) (j : Nat) : Nat := [fmC0 m, fmC1 m, fmC2 m, fmC3 m, fmC4 m, fmC5 m, fmC6 m, fmC7 m, fmC8 m, fmC9 m].getD j 0
noncomputable def FmEnd (w : World) (h₀ : Heap) (g : Array GenState) (d : Drawn) (os : OsState) (c : FC) (r : Result) (s' : Shared) : Prop :=
  r = .ok .next ∧ ∃ h' t' x s, s' = ⟨h', g, d, t', os⟩ ∧ 1 ≤ t' ∧ Lg [] h₀ h' [(c.L, fmFv w c x), (c.pl, liS (chF c.ch s 10) 10)]
theorem fm_P10 {w : World} {h₀ : Heap} {g : Array GenState} {d : Drawn} {os : OsState} {c : FC} (hT : TopOf (ktA w) h₀) (hn : 111 ≤ h₀.objs.size) : PF w h₀ g d os c (FmEnd w h₀ g d os c) 10 (fmFv w c) := by
  intro h t x s old ht D
  refine for_one (tw_pyNext ?_)
  refine led_g0 encO 1000 (dec9 11 0x2c06030000c0603018040201) [] [] (fun _ _ => none) (fun _ _ => [enumO .none (.ref c.it) 10 old, { cls := .type "tuple_iterator", data := .fields #[.none, .int 10 0] }, fmFv w c x, liS (chF c.ch s 10) 10]) (fun _ _ => []) D (D.top hT) hn (ktA_bound w) (fun _ h => nomatch h) ht encO_inj rfl (fun _ _ => rfl) (fun _ _ => rfl) List.nodup_nil rfl (orc1 (by kernel_rfl)) fun h1 t1 tv av htv hav D1 hT1 ht1 _ => ?_
  rw [List.length_eq_zero_iff.mp hav] at D1
  refine wpAny_execs_nil ⟨rfl, h1, t1, x, s, rfl, ht1, ?_⟩
  exact Lg.left (a := [(c.L, fmFv w c x), (c.pl, liS (chF c.ch s 10) 10)]) (b := [(c.e, enumO .none (.ref c.it) 10 old), (c.it, { cls := .type "tuple_iterator", data := .fields #[.none, .int 10 0] })]) (D1.perm (List.Perm.symm ((List.perm_append_comm (l₁ := [(c.e, enumO .none (.ref c.it) 10 old), (c.it, _)]) (l₂ := [(c.L, _), (c.pl, _)])))))
theorem fm_loop {w : World} {h₀ : Heap} {g : Array GenState} {d : Drawn} {os : OsState} {c : FC} (hc : c.ch = fmCh c.m) (hT : TopOf (ktA w) h₀) (hn : 111 ≤ h₀.objs.size) : PF w h₀ g d os c (FmEnd w h₀ g d os c) 0 (fun _ => fmF1 w c.m c.tm c.k0 c.k1 c.pl) :=
  fm_P0 hT hn (congrFun hc 0) (fm_P1 hT hn (congrFun hc 1) (fm_P2 hT hn (congrFun hc 2) (fm_P3 hT hn (congrFun hc 3) (fm_P4 hT hn (congrFun hc 4) (fm_P5 hT hn (congrFun hc 5) (fm_P6 hT hn (congrFun hc 6) (fm_P7 hT hn (congrFun hc 7) (fm_P8 hT hn (congrFun hc 8) (fm_P9 hT hn (congrFun hc 9) (fm_P10 hT hn))))))))))
end Mine
end
section
open PySem PySem.W PyProof.Rows PySem.W.X Mine
set_option Elab.async false
set_option maxRecDepth 100000
set_option maxHeartbeats 4000000
set_option linter.unusedVariables false
namespace Mine
noncomputable def tellG (x : SOut × List (VO × VO)) (is : List Nat) : Bool × (List VO × List Prop) × Except Value PySem.Fin × List (Option Obj) :=
  (x.1.ok, ((eqsOf x.2).map (·.1), propsOf x.2), x.1.res, is.map x.1.T.get)
noncomputable abbrev ToldG := Bool × (List VO × List Prop) × Except Value PySem.Fin × List (Option Obj)
noncomputable def tellG1 (r : RanT) (is : List Nat) (b1 b2 b3 : Bool) : TellT ToldG := fun Q₀ ad tk sp => tellG (r b1 b2 b3 Q₀ ad tk sp) is
noncomputable def tellG2 (r : RanT) (n₀ t₁ : Nat) {α : Type} (enc : α → PySem.Fin) (facts : (Nat → Nat) → (Nat → Nat) → List Prop) (v : (Nat → Nat) → (Nat → Nat) → α) (objs : (Nat → Nat) → (Nat → Nat) → List Obj) (b1 b2 b3 : Bool) : TellT ToldG := fun Q₀ ad tk sp =>
  (true, ((eqsOf (r b1 b2 b3 Q₀ ad tk sp).2).map (·.2), facts (fun i => ad i + n₀) (fun i => tk i + t₁)), .ok (enc (v (fun i => ad i + n₀) (fun i => tk i + t₁))), (objs (fun i => ad i + n₀) (fun i => tk i + t₁)).map some)
theorem led_goG {prog : Program} {w : World} {n₀ t₁ dd uu dm um : Nat} {kt : KT} {l : List (Addr × Obj)} {h₀ h : Heap} {xs : List Addr} {g : Array GenState} {d : Drawn} {os : OsState} {hook : Code → Option Hr}
    {α : Type} {tree : Sem α} (enc : α → PySem.Fin) {Q : α → Shared → Prop} {E : Value → Shared → Prop} (n : Nat) (osB : Bool → Bool → Bool → List Nat) (is : List Nat) (facts : (Nat → Nat) → (Nat → Nat) → List Prop) (hfacts : ∀ ad tk, ∀ P ∈ facts ad tk, P) (v : (Nat → Nat) → (Nat → Nat) → α) (objs : (Nat → Nat) → (Nat → Nat) → List Obj) {t : Nat}
    (L : Lg xs h₀ h l) (hT : TopOf kt h) (hn : n₀ ≤ h₀.objs.size) (hb : ktBound kt ≤ n₀) (hx : ∀ a ∈ xs, kt.get a = none) (ht : t₁ ≤ t)
    (hinj : ∀ a b, enc a = enc b → a = b) (hh : HookS prog w kt n₀ t₁ dm um hook) (hi : allIns (l.map (·.2)) .nil 0 = true) (nd : is.Nodup)
    (H : ∀ b1 b2 b3, tellG1 (ranT prog w n₀ t₁ kt l dd uu dm um h g d os hook E enc tree n osB) is b1 b2 b3 = tellG2 (ranT prog w n₀ t₁ kt l dd uu dm um h g d os hook E enc tree n osB) n₀ t₁ enc facts v objs b1 b2 b3)
    (hq : ∀ h' t' ad tk, (∀ i, n₀ ≤ ad i) → (∀ i, t₁ ≤ tk i) → Lg xs h₀ h' ((is.map (locOf l 0 ad)).zip (objs ad tk)) → TopOf kt h' → t₁ ≤ t' → Q (v ad tk) ⟨h', g, d, t', os⟩) :
    wpAny (model prog w) (An dd uu) tree Q E ⟨h, g, d, t, os⟩ := by
  refine led_any enc n (osB (w.params.followText "special-get-raises") (w.params.followText "for-iterable-display-folded") (w.params.followText "comprehension-iter-twice")) (parS_eq w.params) hn L hT hb hx hi ht hh fun ad tk sp => ?_
  have z := congrFun (congrFun (congrFun (congrFun (H (w.params.followText "special-get-raises") (w.params.followText "for-iterable-display-folded") (w.params.followText "comprehension-iter-twice")) (fun f s => ∀ a, f = enc a → Q a s)) ad) tk) sp
  unfold tellG1 tellG2 ranT tellG at z
  simp only [Prod.mk.injEq] at z
  obtain ⟨z1, ⟨z2, z7⟩, z3, z4⟩ := z
  refine phi_good z1 (eqs_props z2 (by rw [z7]; exact hfacts _ _)) z3 fun h' t' D ht' => ?_
  intro a ha
  have ha' := hinj _ _ ha
  subst ha'
  refine hq h' t' _ _ (fun i => Nat.le_add_left ..) (fun i => Nat.le_add_left ..) ?_ ?_ ht'
  · have y := lg_after (V := mkV prog w (w.params.followText "special-get-raises") (w.params.followText "for-iterable-display-folded") (w.params.followText "comprehension-iter-twice") n₀ t₁ kt l dd uu dm um h g d os hook (fun f s => ∀ a, f = enc a → Q a s) E) L D is _ z4 nd
    have e : locOf l n₀ ad = locOf l 0 (fun i => ad i + n₀) := by
      funext i
      unfold locOf
      split <;> rfl
    change Lg xs h₀ h' ((is.map (locOf l n₀ ad)).zip _) at y
    rw [e] at y
    exact y
  · exact top_keeps hn L hT hb hx D.kb
end Mine
end
section
open PySem PySem.W PyProof.Rows PySem.W.X Mine
set_option Elab.async false
set_option maxRecDepth 100000
set_option maxHeartbeats 0
set_option linter.unusedVariables false
namespace Mine
noncomputable abbrev fmS (m : Int) : Str := ⟨#[fmC0 m, fmC1 m, fmC2 m, fmC3 m, fmC4 m, fmC5 m, fmC6 m, fmC7 m, fmC8 m, fmC9 m]⟩
noncomputable def hkFm (m : Int) : Hk := { nt := 1, nn := 0, res := fun tv _ => .ok (.ret (.str (fmS m) (tv.getD 0 0))), news := fun _ _ => [], upd := fun _ _ => [] }
noncomputable def FmRet (h : Heap) (g : Array GenState) (d : Drawn) (os : OsState) (m : Int) (r : Result) (s' : Shared) : Prop :=
  ∃ (h' : Heap) (t' : Nat) (tv : List Nat), s' = ⟨h', g, d, t', os⟩ ∧ 1 ≤ t' ∧ tv.length = 1 ∧ (∀ x ∈ tv, 1 ≤ x) ∧ r = .ok (.ret (.str (fmS m) (tv.getD 0 0))) ∧ h.objs.size ≤ h'.objs.size ∧ ∀ b o, h.get? b = some o → h'.get? b = some o
theorem fm_ret {w : World} {h h6 : Heap} {g : Array GenState} {d : Drawn} {t6 : Nat} {os : OsState} {c : FC} {x : FV} {s : Nat → Nat} (hc : c.ch = fmCh c.m) (D7 : Lg [] h h6 [(c.L, fmFv w c x), (c.pl, liS (chF c.ch s 10) 10)]) (hT : TopOf (ktA w) h) (hn : 111 ≤ h.objs.size) (ht6 : 1 ≤ t6) {Q : Flow → Shared → Prop} {E : Value → Shared → Prop} (hq : ∀ h' t' k, 1 ≤ t' → 1 ≤ k → h.objs.size ≤ h'.objs.size → (∀ b o, h.get? b = some o → h'.get? b = some o) → Q (.ret (.str (fmS c.m) k)) ⟨h', g, d, t', os⟩) :
    wpAny (model pr w) (An 510 5100) (execs [fmR w] (fmEnv w c.L)) Q E ⟨h6, g, d, t6, os⟩ := by
  refine tw_execs ?_
  refine led_g0 encF' 1000 [1, 3, 3] [] [1] (fun tv _ => .ret (.str ⟨#[c.ch 0, c.ch 1, c.ch 2, c.ch 3, c.ch 4, c.ch 5, c.ch 6, c.ch 7, c.ch 8, c.ch 9]⟩ (tv.getD 0 0))) (fun _ _ => [fmFv w c x, liS (chF c.ch s 10) 10]) (fun _ av => []) D7 (D7.top hT) hn (ktA_bound w) (fun _ h => nomatch h) ht6 encF'_inj rfl (fun _ _ => rfl) (fun _ _ => rfl) (by decide) rfl (orc8 (by kernel_rfl)) fun h7 t7 tv av htv hav D8 hT8 ht8 hge => ?_
  have z := hq h7 t7 (tv.getD 0 0) ht8 ?_ D8.size fun b o e => D8.keep b o e (fun hm => nomatch hm)
  · rw [hc]
    exact z
  · match tv, htv, hge with
    | [k], _, hge => exact hge k (.head _)
theorem fm_rest {w : World} {h h2 : Heap} {g : Array GenState} {d : Drawn} {t2 : Nat} {os : OsState} {c : FC} (hc : c.ch = fmCh c.m) (D2 : Lg [] h h2 [(c.L, fmF1 w c.m c.tm c.k0 c.k1 c.pl), (c.pl, liS [] 0)]) (hT : TopOf (ktA w) h) (hn : 111 ≤ h.objs.size) (ht2 : 1 ≤ t2) {Q : Flow → Shared → Prop} {E : Value → Shared → Prop} (hq : ∀ h' t' k, 1 ≤ t' → 1 ≤ k → h.objs.size ≤ h'.objs.size → (∀ b o, h.get? b = some o → h'.get? b = some o) → Q (.ret (.str (fmS c.m) k)) ⟨h', g, d, t', os⟩) :
    wpAny (model pr w) (An 510 5100) (execs [.For (fmT w) (fmI w) (fmB w) [] (fmP w), fmR w] (fmEnv w c.L)) Q E ⟨h2, g, d, t2, os⟩ := by
  refine wpAny_execs_cons ?_
  rw [arm_exec_For]
  refine wpAny_bind (wpAny_standAt (wpAny_bind (tw_eval ?_)))
  refine led_goG (dm := 0) (um := 0) encV 1000 (fun _ _ _ => (dec9 11 0x1c0e07038140000000000000)) [0, 1, 2, 3] (fun _ _ => []) (fun _ _ _ h => nomatch h) (fun ad _ => .ref (ad 3)) (fun ad _ => [fmF1 w c.m c.tm c.k0 c.k1 c.pl, liS [] 0, tiO 77 0, enumO .none (.ref (ad 2)) 0 .none]) D2 (D2.top hT) hn (ktA_bound w) (fun _ h => nomatch h) ht2 encV_inj HookS.none rfl (by decide) (orc8 (by kernel_rfl)) fun h3 t3 a3 u3 _ _ D3 hT3 ht3 => wpAny_bind (tw_folded ?_)
  refine led_goG (dm := 0) (um := 0) encV 1000 (fun _ _ _ => []) [0, 1, 2, 3] (fun _ _ => []) (fun _ _ _ h => nomatch h) (fun _ _ => .ref (a3 3)) (fun _ _ => [fmF1 w c.m c.tm c.k0 c.k1 c.pl, liS [] 0, tiO 77 0, enumO .none (.ref (a3 2)) 0 .none]) D3 hT3 hn (ktA_bound w) (fun _ h => nomatch h) ht3 encV_inj HookS.none rfl (by decide) (orc8 (by kernel_rfl)) fun h4 t4 a4 u4 _ _ D4 hT4 ht4 => ?_
  refine wpAny_bind (wpAny_standAt (wpAny_bind (wpAny_holding (tw_pyIter ?_))))
  refine led_goG (dm := 0) (um := 0) encV 1000 (fun _ _ _ => [7, 7, 7, 7]) [3, 2, 0, 1] (fun _ _ => []) (fun _ _ _ h => nomatch h) (fun _ _ => .ref (a3 3)) (fun _ _ => [enumO .none (.ref (a3 2)) 0 .none, tiO 77 0, fmF1 w c.m c.tm c.k0 c.k1 c.pl, liS [] 0]) D4 hT4 hn (ktA_bound w) (fun _ h => nomatch h) ht4 encV_inj HookS.none rfl (by decide) (orc8 (by kernel_rfl)) fun h5 t5 a5 u5 _ _ D5 hT5 ht5 => ?_
  refine wpAny_runOwn (code_An (d := 510) (u := 5100) rfl (Nat.le_refl _) (Nat.le_refl _) (codeAny_mono (fm_loop (c := ⟨c.L, c.pl, a3 2, a3 3, c.m, c.tm, c.k0, c.k1, c.ch⟩) hc hT hn h5 t5 ⟨0, 0, 0, 0, .none, .none, .none, .none⟩ (fun _ => 0) .none ht5 D5) fun r s' hx => ?_))
  obtain ⟨rfl, h6, t6, x, s, rfl, ht6, D7⟩ := hx
  exact fm_ret hc D7 hT hn ht6 hq
theorem fm_body {w : World} {h h1 : Heap} {g : Array GenState} {d : Drawn} {t1 : Nat} {os : OsState} {c : FC} (hc : c.ch = fmCh c.m) (D1 : Lg [] h h1 [(c.L, fmF0 w c.m c.tm c.k0)]) (hT : TopOf (ktA w) h) (hn : 111 ≤ h.objs.size) (ht1 : 1 ≤ t1) {Q : Flow → Shared → Prop} {E : Value → Shared → Prop} (hq : ∀ h' t' k, 1 ≤ t' → 1 ≤ k → h.objs.size ≤ h'.objs.size → (∀ b o, h.get? b = some o → h'.get? b = some o) → Q (.ret (.str (fmS c.m) k)) ⟨h', g, d, t', os⟩) :
    wpAny (model pr w) (An 510 5100) (execs (fmBody w) (fmEnv w c.L)) Q E ⟨h1, g, d, t1, os⟩ := by
  rw [fmBody_eq]
  refine execs_one (tw_execs ?_)
  refine led_goG (dm := 0) (um := 0) encF' 1000 (fun _ _ _ => [1, 1]) [0, 1] (fun _ _ => []) (fun _ _ _ h => nomatch h) (fun _ _ => .next) (fun ad tk => [fmF1 w c.m c.tm c.k0 (tk 0) (ad 1), liS [] 0]) D1 (D1.top hT) hn (ktA_bound w) (fun _ h => nomatch h) ht1 encF'_inj HookS.none rfl (by decide) (orc8 (by kernel_rfl)) fun h2 t2 a2 u2 _ _ D2 hT2 ht2 => ?_
  exact ⟨rfl, fm_rest (c := ⟨c.L, a2 1, 0, 0, c.m, c.tm, c.k0, u2 0, c.ch⟩) hc D2 hT hn ht2 hq⟩
theorem fm_run {w : World} {m : Int} {tm : Nat} {h : Heap} {g : Array GenState} {d : Drawn} {t : Nat} {os : OsState} (hT : TopOf (ktA w) h) (hn : 111 ≤ h.objs.size) (ht : 1 ≤ t) :
    codeAny (model pr w) (An 500 5000) (.call (.ref 84) ⟨[.int m tm], []⟩) (FmRet h g d os m) ⟨h, g, d, t, os⟩ := by
  refine codeAny_of_tree ?_
  refine wp_An (d := 505) (u := 5050) rfl (Nat.le_of_ble_eq_true (by kernel_rfl)) (Nat.le_of_ble_eq_true (by kernel_rfl)) ?_
  suffices key : wpAny (model pr w) (An 505 5050) (callZ 84 ⟨[.int m tm], []⟩) _ _ _ from fun Γ p hΓ => callZ_sound hΓ (by decide) (key Γ p hΓ)
  refine led_goG (dm := 0) (um := 0) encI' 1000 (fun _ _ _ => [0, 0, 1, 1, 0]) [0] (fun _ _ => []) (fun _ _ _ h => nomatch h) (fun ad _ => .again (.func (fmBody w) (fmEnv w (ad 0)))) (fun _ tk => [fmF0 w m tm (tk 0)]) (Lg.start (xs := [])) hT hn (ktA_bound w) (fun _ h => nomatch h) ht encI'_inj HookS.none rfl (by decide) (orc8 (by kernel_rfl)) fun h1 t1 a1 u1 _ _ D1 hT1 ht1 => ?_
  replace D1 : Lg [] h h1 [(a1 0, fmF0 w m tm (u1 0))] := D1
  refine ⟨rfl, codeAny_func (wp_An (d := 510) (u := 5100) rfl (Nat.le_of_ble_eq_true (by kernel_rfl)) (Nat.le_of_ble_eq_true (by kernel_rfl)) ?_)⟩
  exact fm_body (c := ⟨a1 0, 0, 0, 0, m, tm, u1 0, 0, fmCh m⟩) rfl D1 hT hn ht1 fun h' t' k a b z K => ⟨h', t', [k], rfl, a, rfl, fun x hx => by cases List.mem_singleton.mp hx; exact b, rfl, z, K⟩
theorem fm_spec (w : World) (m : Int) (tm : Nat) : SpecC pr w (ktA w) 111 1 500 5000 (.call (.ref 84) ⟨[.int m tm], []⟩) [] [] (hkFm m) := by
  intro A h g d t os h1 h2 h3 hT hn ht hg _ _ _ _
  refine code_An (d := 500) (u := 5000) h1 h2 h3 ?_
  refine codeAny_mono (fm_run hT hn ht) fun r s' hx => ?_
  obtain ⟨h', t', tv, rfl, ht', htv, hge, rfl, z, K⟩ := hx
  exact ⟨h', t', tv, [], rfl, ht', htv, rfl, hge, rfl, z, fun b o e _ => K b o e, fun i a x e _ => by simp at e, fun i a o e => by simp at e, List.nodup_nil, fun x hx => (nomatch hx)⟩
end Mine
end
section
open PySem PySem.W PyProof.Rows PySem.W.X Mine
set_option Elab.async false
set_option maxRecDepth 100000
set_option maxHeartbeats 0
set_option linter.unusedVariables false
namespace Mine
theorem gives_spec {prog : Program} {w : World} {kt : KT} {n₀ t₁ dm um : Nat} {id : String} {B : Builtin} {args : Args} {a : Int} (hb : entryFor table id = some B) (hp : plainId id = true) (G : Gives (B args) (.int a)) : SpecC prog w kt n₀ t₁ dm um (.builtin id args) [] [] (hkInt a) := by
  intro A h g d t os h1 h2 h3 hT hnn ht hg hl he hnd hf
  refine codeAny_builtin hb ?_
  rw [Around.under_plainId hp _]
  exact G prog w A (fun res s' => ∃ h' t' tv av, s' = (⟨h', g, d, t', os⟩ : Shared) ∧ t₁ ≤ t' ∧ tv.length = (hkInt a).nt ∧ av.length = (hkInt a).nn ∧ (∀ x ∈ tv, t₁ ≤ x) ∧ res = (hkInt a).res tv av ∧ After h h' [] ((hkInt a).upd tv av) ((hkInt a).news tv av) av) ⟨h, g, d, t, os⟩
    ⟨h, t + 1, [t], [], rfl, Nat.le_succ_of_le ht, rfl, rfl, fun x hx => by cases List.mem_singleton.mp hx; exact ht, rfl, Nat.le_refl _, fun b o e _ => e, fun i a x e _ => by simp at e, fun i a o e => by simp at e, List.nodup_nil, fun x hx => (nomatch hx)⟩
theorem pow_spec (w : World) (n ta tb : Nat) (hn : Nat.ble n 64 = true) : SpecC pr w (ktA w) 111 1 800 8000 (.builtin "int.__pow__" ⟨[.int 2 ta, .int (.ofNat n) tb], []⟩) [] [] (hkInt (.ofNat (2 ^ n))) := by
  have hn := Nat.le_of_ble_eq_true hn
  refine gives_spec PySem.F.entry_int_pow (by decide +kernel) ?_
  by_cases e : n = 0
  · subst e
    exact AutoIntG9.int___pow___int_int_0 2 ta (.ofNat 0) tb (by decide) (by decide)
  · have e2 : ((2 : Int) ^ (Int.ofNat n).toNat) = .ofNat (2 ^ n) := by simp
    rw [← e2]
    refine AutoIntG2.int___pow___int_int_4 2 ta (.ofNat n) tb (by simp) (by simpa using e) (by decide) (by decide) ?_
    have : Builtin.Int.intBits 2 = 2 := by decide +kernel
    rw [this]
    simp only [Builtin.Int.intTooBig, bitsLine]
    simp
    omega
noncomputable def powN (a : Args) : Nat := bif Nat.ble (intOf (pA a 1)).toNat 64 then (intOf (pA a 1)).toNat else 0
theorem powN_le (a : Args) : Nat.ble (powN a) 64 = true := by
  unfold powN
  cases h : Nat.ble (intOf (pA a 1)).toNat 64 with
  | true => exact h
  | false => rfl
noncomputable def powT (a : Args) : Bool := match two isInt a with
  | true => match isN 2 (pA a 0) with
    | true => match intOf (pA a 1) with
      | .ofNat n => Nat.ble n 64
      | _ => false
    | false => false
  | false => false
noncomputable def powG' (t0 t1 n : Nat) : GH := { needs := [], code := fun _ => .builtin "" ⟨[.int 2 t0, .int (.ofNat n) t1], []⟩, objs := fun _ => [], hk := fun _ => hkInt (.ofNat (2 ^ n)) }
noncomputable def powG (a : Args) : GH := strict (powN a) (powG' (tokOf (pA a 0)) (tokOf (pA a 1)))
theorem powG_eq : powG = fun a => powG' (tokOf (pA a 0)) (tokOf (pA a 1)) (powN a) := funext fun a => strict_eq _ _
noncomputable def powHook : Code → Option Hr := bHook 116512447577011902704086890 powT powG
theorem pow_hook (w : World) : HookS pr w (ktA w) 111 1 800 8000 powHook := by
  unfold powHook
  rw [powG_eq]
  exact bHook_n (name := "int.__pow__") (by decide +kernel) 0 (fun _ _ => rfl) fun a _ _ => pow_spec w _ _ _ (powN_le a)
end Mine
end
section
open PySem PySem.W PyProof.Rows PySem.W.X Mine
set_option Elab.async false
set_option maxRecDepth 100000
set_option maxHeartbeats 0
set_option linter.unusedVariables false
namespace Mine
noncomputable def fmG (c : Code) : GH := { needs := [], code := fun _ => .call (.ref 84) ⟨[.int (intOf (pA (cA c) 0)) (tokOf (pA (cA c) 0))], []⟩, objs := fun _ => [], hk := fun _ => hkFm (intOf (pA (cA c) 0)) }
noncomputable def fmHook : Code → Option Hr := cHook (callAt 84 isInt) fmG
theorem fm_hook (w : World) : HookS pr w (ktA w) 111 1 500 5000 fmHook := cHook_n 0 (fun _ _ => rfl) fun c _ _ => fm_spec w _ _
end Mine
end
section
open PySem PySem.W PyProof.Rows PySem.W.X Mine
set_option Elab.async false
set_option maxRecDepth 100000
set_option maxHeartbeats 4000000
set_option linter.unusedVariables false
namespace Mine
section
variable {prog : Program} {w : World} {A : Around} {E : Value → Shared → Prop} {h₀ h : Heap} {g : Array GenState} {d : Drawn} {t : Nat} {os : OsState} {xs : List Addr} {L : List (Addr × Obj)} {it l : Addr} {i ep : Nat} {vs : List Value}
end
section
variable {prog : Program} {w : World} {g : Array GenState} {d : Drawn} {os : OsState} {h₀ : Heap} {l I S : Addr} {xs : List (Int × Nat)} {dd uu ep : Nat}
end
end Mine
end
section
open PySem PySem.W PyProof.Rows PySem.W.X Mine
set_option Elab.async false
set_option maxRecDepth 100000
set_option maxHeartbeats 0
set_option linter.unusedVariables false
namespace Mine
noncomputable def lwFd (w : World) : FuncData := fdOf ((ktA w).get 110)
noncomputable def lwBody (w : World) : List Stmt := match (lwFd w).body with
  | .stmts b => b
  | _ => []
noncomputable def valOf (s : Stmt) : PySem.Expr := match s with
  | .Assign _ v _ => v
  | _ => default
end Mine
end
section
open PySem PySem.W PyProof.Rows PySem.W.X Mine
set_option Elab.async false
set_option maxRecDepth 100000
set_option maxHeartbeats 0
set_option linter.unusedVariables false
namespace Mine
noncomputable def hkStr (x : Str) : Hk := { nt := 1, nn := 0, res := fun tv _ => .ok (.ret (.str x (tv.getD 0 0))), news := fun _ _ => [], upd := fun _ _ => [] }
noncomputable def hkI (i : Int) : Hk := { nt := 1, nn := 0, res := fun tv _ => .ok (.ret (.int i (tv.getD 0 0))), news := fun _ _ => [], upd := fun _ _ => [] }
theorem after_same (h : Heap) (needs : List Addr) : After h h needs [] [] [] :=
  ⟨Nat.le_refl _, fun b o e _ => e, fun i a x _ e => by simp at e, fun i a o e => by simp at e, List.nodup_nil, fun x hx => (nomatch hx)⟩
noncomputable def PostC (σ : Hk) (needs : List Addr) (h : Heap) (g : Array GenState) (d : Drawn) (os : OsState) (res : Result) (s' : Shared) : Prop := ∃ h' t' tv av, s' = ⟨h', g, d, t', os⟩ ∧ 1 ≤ t' ∧ tv.length = σ.nt ∧ av.length = σ.nn ∧ (∀ x ∈ tv, 1 ≤ x) ∧ res = σ.res tv av ∧ After h h' needs (σ.upd tv av) (σ.news tv av) av
theorem spec_mstr (w : World) {id : String} {args : Args} {B : Builtin} (he : entryFor table id = some B) (hp : plainId id = true) {S : PySem.Spec} (hm : Meets (B args) S) {needs : List Addr} {objs : List Obj} {x : Str}
    (H : ∀ A R s, 1 ≤ s.toks → (∀ (i : Nat) a o, needs[i]? = some a → objs[i]? = some o → s.heap.get? a = some o) → (∀ k t', 1 ≤ k → 1 ≤ t' → R (.ok (.ret (.str x k))) { s with toks := t' }) → S A R s) :
    SpecC pr w (ktA w) 111 1 800 8000 (.builtin id args) needs objs (hkStr x) := by
  intro A h g d t os h1 h2 h3 hT hn ht hg _ _ _ _
  show codeAny (model pr w) A _ (PostC (hkStr x) needs h g d os) _
  refine codeAny_builtin he ?_
  rw [Around.under_plainId hp _]
  exact hm pr w A (PostC (hkStr x) needs h g d os) ⟨h, g, d, t, os⟩ (H A _ _ ht hg fun k t' hk ht' => ⟨h, t', [k], [], rfl, ht', rfl, rfl, fun x hx => by cases List.mem_singleton.mp hx; exact hk, rfl, after_same h needs⟩)
theorem spec_mint (w : World) {id : String} {args : Args} {B : Builtin} (he : entryFor table id = some B) (hp : plainId id = true) {i : Int} (hm : Gives (B args) (Made.int i)) :
    SpecC pr w (ktA w) 111 1 800 8000 (.builtin id args) [] [] (hkI i) := by
  intro A h g d t os h1 h2 h3 hT hn ht hg _ _ _ _
  show codeAny (model pr w) A _ (PostC (hkI i) [] h g d os) _
  refine codeAny_builtin he ?_
  rw [Around.under_plainId hp _]
  exact hm pr w A (PostC (hkI i) [] h g d os) ⟨h, g, d, t, os⟩ ⟨h, t + 1, [t], [], rfl, Nat.le_succ_of_le ht, rfl, rfl, fun x hx => by cases List.mem_singleton.mp hx; exact ht, rfl, after_same h []⟩
theorem post_str {m : Made} {x : Str} {R : Value → Shared → Prop} {s : Shared} (ht : 1 ≤ s.toks) (hR : ∀ k t', 1 ≤ k → 1 ≤ t' → R (.str x k) { s with toks := t' }) (hm : (∃ k, 1 ≤ k ∧ m = Made.val (.str x k)) ∨ (m = Made.str x ∧ x.length ≤ sizeLine)) : m.post R s := by
  rcases hm with ⟨k, hk, rfl⟩ | ⟨rfl, hl⟩
  · exact hR k s.toks hk ht
  · exact ⟨hl, hR s.toks (s.toks + 1) ht (Nat.le_succ_of_le ht)⟩
theorem add_spec (w : World) (x y : Str) (t u : Nat) (ht : 1 ≤ t) (hu : 1 ≤ u) (hl : x.length + y.length ≤ 1000) : SpecC pr w (ktA w) 111 1 800 8000 (.builtin "str.__add__" ⟨[.str x t, .str y u], []⟩) [] [] (hkStr (x ++ y)) := by
  refine spec_mstr w F.entry_str_add (by decide +kernel) (S := fun _ R s => Made.post (if x.length == 0 then .val (.str y u) else if y.length == 0 then .val (.str x t) else .str (x ++ y)) (fun v s' => R (.ok (.ret v)) s') s) (gives_str_add x y t u) fun A R s hs _ hR => ?_
  refine post_str hs hR ?_
  have app : (x ++ y).cps = x.cps ++ y.cps := rfl
  have same : ∀ a b : Str, a.cps = b.cps → a = b := fun a b e => by cases a; cases b; cases e; rfl
  cases h1 : x.length == 0 with
  | true =>
    refine .inl ⟨u, hu, ?_⟩
    have e : x.cps = #[] := Array.size_eq_zero_iff.mp (eq_of_beq h1)
    rw [same (x ++ y) y (by rw [app, e, Array.empty_append])]
    rfl
  | false =>
    cases h2 : y.length == 0 with
    | true =>
      refine .inl ⟨t, ht, ?_⟩
      have e : y.cps = #[] := Array.size_eq_zero_iff.mp (eq_of_beq h2)
      rw [same (x ++ y) x (by rw [app, e, Array.append_empty])]
      rfl
    | false =>
      refine .inr ⟨rfl, ?_⟩
      have : (x ++ y).length = x.length + y.length := by show (x ++ y).cps.size = _; rw [app, Array.size_append]; rfl
      rw [this]
      exact Nat.le_trans hl (by decide)
noncomputable def mulS (x : Str) (n : Int) : Str := ⟨if n = 1 then x.cps else #[]⟩
theorem smul_spec (w : World) (x : Str) (n : Int) (t u : Nat) (ht : 1 ≤ t) (hn : n = 0 ∨ n = 1) (hl : x.length ≤ 1000) : SpecC pr w (ktA w) 111 1 800 8000 (.builtin "str.__mul__" ⟨[.str x t, .int n u], []⟩) [] [] (hkStr (mulS x n)) := by
  refine spec_mstr w F.entry_str_mul (by decide +kernel) (gives_str_mul x n t u (by rcases hn with rfl | rfl <;> rfl) (fun a b => ?_) fun a b => ?_) fun A R s hs _ hR => ?_
  · rcases hn with rfl | rfl
    · exact absurd (by decide) a
    · simp at b
  · rcases hn with rfl | rfl
    · exact absurd (by decide) a
    · simp at b
  · refine post_str hs hR ?_
    rcases hn with rfl | rfl
    · exact .inr ⟨rfl, Nat.zero_le _⟩
    · exact .inl ⟨t, ht, rfl⟩
end Mine
end
section
open PySem PySem.W PyProof.Rows PySem.W.X Mine
set_option Elab.async false
set_option maxRecDepth 100000
set_option maxHeartbeats 0
set_option linter.unusedVariables false
namespace Mine
noncomputable def sL (l : List Nat) : Str := ⟨⟨l⟩⟩
theorem sL_of (x : Str) : sL x.cps.toList = x := rfl
noncomputable def cntL (c : Nat) : List Nat → Nat
  | [] => 0
  | d :: l => if d = c then cntL c l + 1 else cntL c l
theorem cntL_app (c : Nat) : ∀ a b : List Nat, cntL c (a ++ b) = cntL c a + cntL c b
  | [], b => by rw [List.nil_append]; exact (Nat.zero_add _).symm
  | d :: a, b => by
    show (if d = c then cntL c (a ++ b) + 1 else cntL c (a ++ b)) = (if d = c then cntL c a + 1 else cntL c a) + cntL c b
    rw [cntL_app c a b]
    split <;> omega
theorem cntL_no {c : Nat} : ∀ {l : List Nat}, c ∉ l → cntL c l = 0
  | [], _ => rfl
  | d :: l, h => by
    show (if d = c then cntL c l + 1 else cntL c l) = 0
    have q : d ≠ c := fun e => by subst e; exact h (.head _)
    rw [if_neg q, cntL_no fun m => h (.tail _ m)]
theorem chain_cnt (x : Str) (c : Nat) : ∀ (cuts : List Nat) (a f : Nat), StrLaws.ChainG x ⟨#[c]⟩ x.length a cuts f → (∀ k, f ≤ k → ¬ StrLaws.At x ⟨#[c]⟩ x.length k) → cuts.length = cntL c (x.cps.toList.drop a)
  | [], a, f, h, hn => by
    have e : f = a := h
    subst e
    refine (cntL_no fun hm => ?_).symm
    obtain ⟨j, hj⟩ := List.getElem?_of_mem hm
    rw [List.getElem?_drop] at hj
    exact hn (f + j) (Nat.le_add_right ..) ((StrLaws.subAt_one x c (f + j)).mpr hj)
  | d :: r, a, f, h, hn => by
    obtain ⟨h1, h2, h3, h4⟩ := h
    have ih := chain_cnt x c r _ f h4 hn
    have hd : x.cps.toList[d]? = some c := (StrLaws.subAt_one x c d).mp h2
    have hlt : d < x.cps.toList.length := (List.getElem?_eq_some_iff.mp hd).1
    have e1 : x.cps.toList.drop a = (x.cps.toList.drop a).take (d - a) ++ x.cps.toList.drop d := by
      have := (List.take_append_drop (d - a) (x.cps.toList.drop a)).symm
      rw [List.drop_drop] at this
      rw [show a + (d - a) = d by omega] at this
      exact this
    have e2 : x.cps.toList.drop d = c :: x.cps.toList.drop (d + 1) := by
      rw [List.drop_eq_getElem_cons hlt]
      have : x.cps.toList[d] = c := by rw [List.getElem?_eq_getElem hlt] at hd; exact Option.some.inj hd
      rw [this]
    have e3 : cntL c ((x.cps.toList.drop a).take (d - a)) = 0 := cntL_no fun hm => by
      obtain ⟨j, hj⟩ := List.getElem?_of_mem hm
      have hj2 : j < d - a := by
        have := (List.getElem?_eq_some_iff.mp hj).1
        simp at this
        omega
      rw [List.getElem?_take_of_lt hj2, List.getElem?_drop] at hj
      exact h3 (a + j) (by omega) (by omega) ((StrLaws.subAt_one x c (a + j)).mpr hj)
    rw [e1, cntL_app, e3, e2]
    show r.length + 1 = 0 + (if c = c then cntL c (x.cps.toList.drop (d + 1)) + 1 else _)
    rw [if_pos rfl, ih]
    show cntL c (x.cps.toList.drop (d + 1)) + 1 = _
    omega
theorem count_eq (x : Str) (c : Nat) : (Builtin.Str.occurrences x ⟨#[c]⟩ 0 x.length (x.length + 1)).length = cntL c x.cps.toList := by
  obtain ⟨f, h1, h2⟩ := StrLaws.occ_tight x ⟨#[c]⟩ (Nat.le_refl 1)
  exact chain_cnt x c _ 0 f h1 h2
theorem count_spec (w : World) (x : Str) (c t u : Nat) : SpecC pr w (ktA w) 111 1 800 8000 (.builtin "str.count" ⟨[.str x t, .str ⟨#[c]⟩ u], []⟩) [] [] (hkI (.ofNat (cntL c x.cps.toList))) := by
  rw [← count_eq]
  exact spec_mint w F.entry_str_count (by decide +kernel) (gives_str_count x ⟨#[c]⟩ t u)
noncomputable def lastIx (c : Nat) : List Nat → Nat
  | [] => 0
  | _ :: l => match cntL c l with
    | 0 => 0
    | _ + 1 => lastIx c l + 1
theorem lastIx_spec (c : Nat) : ∀ l : List Nat, 1 ≤ cntL c l → l[lastIx c l]? = some c ∧ (∀ k, lastIx c l < k → l[k]? ≠ some c)
  | [], h => absurd h (Nat.not_succ_le_zero 0)
  | d :: l, h => by
    cases e : cntL c l with
    | zero =>
      have h1 : lastIx c (d :: l) = 0 := by show (match cntL c l with | 0 => 0 | _ + 1 => lastIx c l + 1) = 0; rw [e]
      have h2 : d = c := by
        have h' : 1 ≤ (if d = c then cntL c l + 1 else cntL c l) := h
        rw [e] at h'
        by_cases q : d = c
        · exact q
        · rw [if_neg q] at h'; exact absurd h' (Nat.not_succ_le_zero 0)
      rw [h1]
      refine ⟨by rw [h2]; rfl, fun k hk hc => ?_⟩
      obtain ⟨j, rfl⟩ : ∃ j, k = j + 1 := ⟨k - 1, by omega⟩
      have hm : c ∈ l := List.mem_of_getElem? (by simpa using hc : l[j]? = some c)
      have : ∀ l : List Nat, c ∈ l → 1 ≤ cntL c l := by
        intro l
        induction l with
        | nil => intro h; cases h
        | cons a l ih =>
          intro h
          show 1 ≤ (if a = c then cntL c l + 1 else cntL c l)
          split
          · omega
          · rename_i q
            rcases List.mem_cons.mp h with r | r
            · exact absurd r.symm q
            · exact ih r
      have := this l hm
      omega
    | succ n =>
      have h1 : lastIx c (d :: l) = lastIx c l + 1 := by show (match cntL c l with | 0 => 0 | _ + 1 => lastIx c l + 1) = _; rw [e]
      have ih := lastIx_spec c l (by omega)
      rw [h1]
      refine ⟨by simpa using ih.1, fun k hk hc => ?_⟩
      obtain ⟨j, rfl⟩ : ∃ j, k = j + 1 := ⟨k - 1, by omega⟩
      exact ih.2 j (by omega) (by simpa using hc)
theorem last_eq (x : Str) (c : Nat) (h : 1 ≤ cntL c x.cps.toList) : Builtin.Str.lastOccurrence x ⟨#[c]⟩ 0 x.length = some (lastIx c x.cps.toList) := by
  obtain ⟨a1, a2⟩ := lastIx_spec c x.cps.toList h
  rcases StrLaws.last_spec x ⟨#[c]⟩ with ⟨e, hn⟩ | ⟨i, e, hi, hk⟩
  · exact absurd ((StrLaws.subAt_one x c _).mpr a1) (hn _)
  · have hi' := (StrLaws.subAt_one x c i).mp hi
    rw [e]
    congr 1
    rcases Nat.lt_trichotomy i (lastIx c x.cps.toList) with q | q | q
    · exact absurd ((StrLaws.subAt_one x c _).mpr a1) (hk _ q)
    · exact q
    · exact absurd hi' (a2 i q)
theorem rindex_spec (w : World) (x : Str) (c t u : Nat) (h : 1 ≤ cntL c x.cps.toList) : SpecC pr w (ktA w) 111 1 800 8000 (.builtin "str.rindex" ⟨[.str x t, .str ⟨#[c]⟩ u], []⟩) [] [] (hkI (.ofNat (lastIx c x.cps.toList))) :=
  spec_mint w F.entry_str_rindex (by decide +kernel) (gives_str_rindex x ⟨#[c]⟩ t u _ (last_eq x c h))
noncomputable def catL : List (Str × Nat) → List Nat
  | [] => []
  | p :: l => p.1.cps.toList ++ catL l
theorem glued_cat : ∀ l : List (Str × Nat), Builtin.Str.glued ⟨#[]⟩ (l.map (·.1)) = sL (catL l)
  | [] => rfl
  | p :: l => by
    have key : ∀ (l : List (Str × Nat)) (acc : Array Nat), ((l.map (·.1)).foldl (fun acc p => acc ++ (⟨#[]⟩ : Str).cps ++ p.cps) acc) = ⟨acc.toList ++ catL l⟩ := by
      intro l
      induction l with
      | nil => intro acc; show acc = ⟨acc.toList ++ []⟩; rw [List.append_nil]
      | cons q l ih =>
        intro acc
        rw [List.map_cons, List.foldl_cons, ih]
        show (⟨(acc ++ #[] ++ q.1.cps).toList ++ catL l⟩ : Array Nat) = ⟨acc.toList ++ (q.1.cps.toList ++ catL l)⟩
        rw [Array.append_empty, Array.toList_append, List.append_assoc]
    show (⟨(l.map (·.1)).foldl (fun acc p => acc ++ (⟨#[]⟩ : Str).cps ++ p.cps) p.1.cps⟩ : Str) = _
    rw [key]
    rfl
theorem tot_len : ∀ (l : List (Str × Nat)) (n : Nat), (l.map (·.1)).foldl (fun (n : Nat) (s : Str) => n + s.length + (⟨#[]⟩ : Str).length) n = n + (catL l).length
  | [], n => rfl
  | p :: l, n => by
    rw [List.map_cons, List.foldl_cons, tot_len l]
    show n + p.1.length + 0 + (catL l).length = n + (p.1.cps.toList ++ catL l).length
    rw [List.length_append]
    have q : p.1.length = p.1.cps.toList.length := by rw [Array.length_toList]; rfl
    rw [q]
    omega
theorem join_spec (w : World) (a : Addr) (l : List (Str × Nat)) (e t : Nat) (hl : (catL l).length ≤ 1000) (ht : ∀ p ∈ l, 1 ≤ p.2) : SpecC pr w (ktA w) 111 1 800 8000 (.builtin "str.join" ⟨[.str ⟨#[]⟩ t, .ref a], []⟩) [a] [liS (strValues l) e] (hkStr (sL (catL l))) := by
  have fit : Builtin.Str.tooLong ((l.map (·.1)).toArray.foldl (· + ·.length + (⟨#[]⟩ : Str).length) 0) = false := by
    rw [List.foldl_toArray', tot_len]
    · show decide (_ > sizeLine) = false
      rw [sizeLine_eq]
      simp
      omega
    · rfl
  refine spec_mstr w F.entry_str_join (by decide +kernel) (meets_str_join_list ⟨#[]⟩ t a l fit) fun A R s hs hg hR => ?_
  have hg0 := hg 0 a _ rfl rfl
  refine ⟨⟨_, hg0, rfl, _, rfl⟩, post_str hs hR ?_⟩
  match l, hl, ht with
  | [], _, _ => exact .inr ⟨rfl, Nat.zero_le _⟩
  | [p], _, ht => exact .inl ⟨p.2, ht p (.head _), by
      show Made.val (.str p.1 p.2) = .val (.str (sL (p.1.cps.toList ++ [])) p.2)
      rw [List.append_nil, sL_of]⟩
  | p :: q :: r, hl, _ =>
    refine .inr ⟨?_, Nat.le_trans hl (by decide)⟩
    show Made.str (Builtin.Str.glued _ _) = _
    rw [glued_cat]
noncomputable def cutS (x : Str) (a b : Nat) : Str := sL ((x.cps.toList.drop a).take (b - a))
end Mine
end
section
open PySem PySem.W PyProof.Rows PySem.W.X Mine
set_option Elab.async false
set_option maxRecDepth 100000
set_option maxHeartbeats 0
set_option linter.unusedVariables false
namespace Mine
theorem slice_made (x : Str) (t a b : Nat) (lo hi : Option (Int × Nat)) (hlo : (lo.map (·.1)).getD 0 = (a : Int)) (hhi : (hi.map (·.1)).getD (x.cps.toList.length : Int) = (b : Int)) (hab : a ≤ b) (hb : b ≤ x.cps.toList.length) :
    sliceMade x t lo hi none = .val (.str (cutS x a b) t) ∨ sliceMade x t lo hi none = .str (cutS x a b) := by
  have hl : x.length = x.cps.toList.length := by rw [Array.length_toList]; rfl
  have hb' : b ≤ x.length := by rw [hl]; exact hb
  have e : slicePicked x lo hi none = Builtin.Str.strSliceIndices (some (a : Int)) (some (b : Int)) 1 x.length := by
    unfold slicePicked
    have e1 : ∀ u, Builtin.Str.strSliceIndices (lo.map (·.1)) u 1 x.length = Builtin.Str.strSliceIndices (some (a : Int)) u 1 x.length := fun u => by
      cases lo with
      | none =>
        have : (a : Int) = 0 := hlo.symm
        rw [this]
        exact StrLaws.sliceIdx_none_lo u x.length
      | some p =>
        have : p.1 = (a : Int) := hlo
        rw [← this]
        rfl
    have e2 : Builtin.Str.strSliceIndices (some (a : Int)) (hi.map (·.1)) 1 x.length = Builtin.Str.strSliceIndices (some (a : Int)) (some (b : Int)) 1 x.length := by
      cases hi with
      | none =>
        have : (x.cps.toList.length : Int) = (b : Int) := hhi
        rw [← this, ← hl]
        exact StrLaws.sliceIdx_none_hi _ x.length
      | some p =>
        have : p.1 = (b : Int) := hhi
        rw [← this]
        rfl
    show Builtin.Str.strSliceIndices (lo.map (·.1)) (hi.map (·.1)) 1 x.length = _
    rw [e1, e2]
  unfold sliceMade
  rw [e]
  split
  · rename_i h
    refine .inl ?_
    rw [StrLaws.strSliceIndices_plain hab hb'] at h
    have h' : b - a = x.length := by simpa using h
    have ha : a = 0 := by omega
    subst ha
    have hbb : b = x.cps.toList.length := by omega
    have : cutS x 0 b = x := by
      unfold cutS
      rw [List.drop_zero, Nat.sub_zero, hbb, List.take_length, sL_of]
    rw [this]
  · refine .inr ?_
    rw [StrLaws.sliced_plain x hab hb']
    rfl
noncomputable def slO (lo hi : Option (Int × Nat)) : Obj := { cls := .type "slice", data := .fields #[partValue lo, partValue hi, .none] }
theorem cut_len (x : Str) (a b : Nat) : (cutS x a b).length ≤ x.cps.toList.length := by
  show (List.take (b - a) (x.cps.toList.drop a)).length ≤ _
  rw [List.length_take, List.length_drop]
  omega
theorem slice_spec (w : World) (x : Str) (t sa a b : Nat) (lo hi : Option (Int × Nat)) (ht : 1 ≤ t) (hlo : (lo.map (·.1)).getD 0 = (a : Int)) (hhi : (hi.map (·.1)).getD (x.cps.toList.length : Int) = (b : Int)) (hab : a ≤ b) (hb : b ≤ x.cps.toList.length) (hl : x.cps.toList.length ≤ 1000) :
    SpecC pr w (ktA w) 111 1 800 8000 (.builtin "str.__getitem__" ⟨[.str x t, .ref sa], []⟩) [sa] [slO lo hi] (hkStr (cutS x a b)) := by
  refine spec_mstr w F.entry_str_getitem (by decide +kernel) (meets_str_getitem_slice x t sa lo hi none rfl) fun A R s hs hg hR => ?_
  refine ⟨⟨_, hg 0 sa _ rfl rfl, rfl, rfl⟩, post_str hs hR ?_⟩
  rcases slice_made x t a b lo hi hlo hhi hab hb with e | e
  · exact .inl ⟨t, ht, e⟩
  · exact .inr ⟨e, Nat.le_trans (Nat.le_trans (cut_len x a b) hl) (by decide)⟩
noncomputable abbrev siO (x : Str) (t : Nat) (i : Nat) : Obj := { cls := .type "str_ascii_iterator", data := .fields #[.str x t, .int (.ofNat i) 0] }
noncomputable def hkIter (x : Str) (t : Nat) : Hk := { nt := 0, nn := 1, res := fun _ av => .ok (.ret (.ref (av.getD 0 0))), news := fun _ _ => [siO x t 0], upd := fun _ _ => [] }
theorem siter_spec (w : World) (x : Str) (t : Nat) (ha : x.cps.all (· < 128) = true) : SpecC pr w (ktA w) 111 1 800 8000 (.builtin "str.__iter__" ⟨[.str x t], []⟩) [] [] (hkIter x t) := by
  intro A h g d tt os h1 h2 h3 hT hn ht hg _ _ _ _
  refine codeAny_builtin F.entry_str_iter ?_
  rw [Around.under_plainId (by decide +kernel) _]
  show wpAny _ _ (do ret (← newFields (if (true && x.cps.all (· < 128)) = true then "str_ascii_iterator" else "str_iterator") [.str x t, rawInt 0])) _ _ _
  rw [ha]
  refine wpAny_bind (wpAny_newObj_type (wpAny_pure ?_))
  refine ⟨_, tt, [], [h.objs.size], rfl, ht, rfl, rfl, fun _ hx => (nomatch hx), rfl, ?_⟩
  refine ⟨by rw [Heap.size_push]; exact Nat.le_succ _, fun b o e _ => Heap.get?_push_of_some _ e, fun i a o _ e => by simp [hkIter] at e, fun i a o e1 e2 => ?_, by simp, fun x hx => by cases List.mem_singleton.mp hx; exact Nat.le_refl _⟩
  match i with
  | 0 =>
    simp only [hkIter, List.getElem?_cons_zero, Option.some.injEq] at e1 e2
    subst e1 e2
    refine ⟨Nat.le_refl _, by rw [Heap.size_push]; exact Nat.lt_succ_self _, Heap.get?_push_size _ rfl⟩
  | i + 1 => simp at e1
noncomputable def hkNext (x : Str) (t i c : Nat) : Hk := { nt := 1, nn := 0, res := fun tv _ => .ok (.ret (.str ⟨#[c]⟩ (tv.getD 0 0))), news := fun _ _ => [], upd := fun _ _ => [siO x t (i + 1)] }
theorem snext_spec (w : World) (a : Addr) (x : Str) (t i c : Nat) (hx : x.cps.toList[i]? = some c) : SpecC pr w (ktA w) 111 1 800 8000 (.builtin "str_ascii_iterator.__next__" ⟨[.ref a], []⟩) [a] [siO x t i] (hkNext x t i c) := by
  intro A h g d tt os h1 h2 h3 hT hn ht hg _ _ _ _
  have ho : h.get? a = some (siO x t i) := hg 0 a _ rfl rfl
  refine codeAny_builtin F.entry_str_ascii_iterator_next ?_
  rw [Around.under_plainId (by decide +kernel) _]
  show wpAny _ _ (field (.ref a) 0 >>= _) _ _ _
  refine wpAny_bind (wpAny_field ho rfl (x := .str x t) rfl ?_)
  show wpAny _ _ (field (.ref a) 1 >>= _) _ _ _
  refine wpAny_bind (wpAny_field ho rfl (x := .int (.ofNat i) 0) rfl ?_)
  have hx' : x.cps[i]? = some c := by rw [← Array.getElem?_toList]; exact hx
  simp only [Int.ofNat_eq_natCast, Int.toNat_natCast, hx']
  refine wpAny_bind (wpAny_setField ho rfl (by simp) (wpAny_bind (wpAny_mkStr (wpAny_pure ?_) (by show 1 ≤ sizeLine; decide))))
  refine ⟨_, tt + 1, [tt], [], rfl, Nat.le_succ_of_le ht, rfl, rfl, fun x hx => by cases List.mem_singleton.mp hx; exact ht, rfl, ?_⟩
  have hs := Heap.SameBut.update h a (Obj.mapFields (·.setIfInBounds 1 (rawInt ((i : Int) + 1))))
  refine ⟨by rw [Heap.size_update]; exact Nat.le_refl _, fun b o e hb => (hs.2 b fun q => hb (by subst q; exact .head _)).trans e, fun j b o e1 e2 => ?_, fun j b o e => by simp at e, List.nodup_nil, fun x hx => (nomatch hx)⟩
  match j with
  | 0 =>
    simp only [hkNext, List.getElem?_cons_zero, Option.some.injEq] at e1 e2
    subst e1 e2
    refine (Heap.get?_update_self _ ho ?_).trans ?_
    · exact Obj.isFreed_of_fields (Obj.data_mapFields (show (siO x t i).data = .fields _ from rfl) _)
    · rfl
  | j + 1 => simp at e1
end Mine
end
section
open PySem PySem.W PyProof.Rows PySem.W.X Mine
set_option Elab.async false
set_option maxRecDepth 100000
set_option maxHeartbeats 0
set_option linter.unusedVariables false
namespace Mine
noncomputable def hkV (v : Value) : Hk := { nt := 0, nn := 0, res := fun _ _ => .ok (.ret v), news := fun _ _ => [], upd := fun _ _ => [] }
theorem item_spec (w : World) (a : Addr) (vs : List Value) (e t : Nat) (k : Int) (v : Value) (h0 : 0 ≤ k) (hk : k < 1000) (hv : vs[k.toNat]? = some v) :
    SpecC pr w (ktA w) 111 1 800 8000 (.builtin "list.__getitem__" ⟨[.ref a, .int k t], []⟩) [a] [liS vs e] (hkV v) := by
  intro A h g d tk os h1 h2 h3 hT hn ht hg _ _ _ _
  have ho : h.get? a = some (liS vs e) := hg 0 a _ rfl rfl
  refine codeAny_builtin entry_list_getitem ?_
  rw [Around.under_plainId (by decide +kernel) _]
  show wpAny _ _ (Builtin.List.listSubscript? (.int k t) >>= _) _ _ _
  refine wpAny_bind (wpAny_listSubscript_int (fitsIndex_of h0 (by omega)) ?_)
  clear hk
  obtain ⟨j, rfl⟩ := Int.eq_ofNat_of_zero_le h0
  have hx' : (⟨vs⟩ : Array Value)[j]? = some v := by rw [← Array.getElem?_toList]; exact hv
  show wpAny _ _ ((seqItemAt a j >>= fun r => pure (r.map (j, ·))) >>= _) _ _ _
  refine wpAny_bind (wpAny_bind (wpAny_seqItemAt ho rfl (wpAny_pure ?_)))
  rw [hx']
  have fin : PostC (hkV v) [a] h g d os (.ok (.ret v)) ⟨h, g, d, tk, os⟩ := ⟨h, tk, [], [], rfl, ht, rfl, rfl, fun _ hx => (nomatch hx), rfl, after_same h [a]⟩
  first
    | exact wpAny_bind (wpAny_pure (wpAny_pure fin))
    | exact wpAny_pure fin
theorem itemN_spec (w : World) (a : Addr) (vs : List Value) (e t : Nat) (k : Int) (v : Value) (h0 : k < 0) (h1 : -(vs.length : Int) ≤ k) (hfit : -(2 ^ 63) ≤ k) (hv : vs[(k + vs.length).toNat]? = some v) :
    SpecC pr w (ktA w) 111 1 800 8000 (.builtin "list.__getitem__" ⟨[.ref a, .int k t], []⟩) [a] [liS vs e] (hkV v) := by
  intro A h g d tk os a1 a2 a3 hT hn ht hg _ _ _ _
  have ho : h.get? a = some (liS vs e) := hg 0 a _ rfl rfl
  refine codeAny_builtin entry_list_getitem ?_
  rw [Around.under_plainId (by decide +kernel) _]
  show wpAny _ _ (Builtin.List.listSubscript? (.int k t) >>= _) _ _ _
  refine wpAny_bind (wpAny_listSubscript_int (fitsIndex_neg h0 hfit) ?_)
  clear hfit
  have hidx : seqIndex? k (⟨vs⟩ : Array Value).size = some (k + vs.length).toNat := seqIndex_neg h0 h1
  have hx' : (⟨vs⟩ : Array Value)[(k + vs.length).toNat]? = some v := by rw [← Array.getElem?_toList]; exact hv
  clear hv
  obtain ⟨j, rfl⟩ : ∃ j : Nat, k = Int.negSucc j := by
    cases k with
    | ofNat n => exact absurd h0 (Int.not_lt.mpr (Int.ofNat_nonneg n))
    | negSucc n => exact ⟨n, rfl⟩
  show wpAny _ _ ((Builtin.List.listItems (.ref a) >>= fun xs => pure ((seqIndex? (Int.negSucc j) xs.size).bind fun i => xs[i]?.map (i, ·))) >>= _) _ _ _
  refine wpAny_bind (wpAny_bind ?_)
  show wpAny _ _ (seqItems? (.ref a) >>= _) _ _ _
  refine wpAny_bind (wpAny_seqItems ho rfl (wpAny_pure (wpAny_pure ?_)))
  rw [hidx]
  simp only [Option.bind_some, hx', Option.map_some]
  have fin : PostC (hkV v) [a] h g d os (.ok (.ret v)) ⟨h, g, d, tk, os⟩ := ⟨h, tk, [], [], rfl, ht, rfl, rfl, fun _ hx => (nomatch hx), rfl, after_same h [a]⟩
  first
    | exact wpAny_bind (wpAny_pure (wpAny_pure fin))
    | exact wpAny_pure fin
theorem after_new (h : Heap) (needs : List Addr) (o : Obj) (ho : o.isFreed = false) : After h (h.push o) needs [] [o] [h.objs.size] := by
  refine ⟨by rw [Heap.size_push]; exact Nat.le_succ _, fun b o e _ => Heap.get?_push_of_some _ e, fun i a o _ e => by simp at e, fun i a o e1 e2 => ?_, by simp, fun x hx => by cases List.mem_singleton.mp hx; exact Nat.le_refl _⟩
  match i with
  | 0 =>
    simp only [List.getElem?_cons_zero, Option.some.injEq] at e1 e2
    subst e1 e2
    exact ⟨Nat.le_refl _, by rw [Heap.size_push]; exact Nat.lt_succ_self _, Heap.get?_push_size _ ho⟩
  | i + 1 => simp at e1
noncomputable def hkL (vs : List Value) : Hk := { nt := 0, nn := 1, res := fun _ av => .ok (.ret (.ref (av.getD 0 0))), news := fun _ _ => [liS vs 0], upd := fun _ _ => [] }
theorem spec_meet (w : World) {id : String} {args : Args} {B : Builtin} (he : entryFor table id = some B) (hp : plainId id = true) {S : PySem.Spec} (hm : Meets (B args) S) {needs : List Addr} {objs : List Obj} {σ : Hk}
    (H : ∀ A h g d t os, 1 ≤ t → (∀ (i : Nat) a o, needs[i]? = some a → objs[i]? = some o → h.get? a = some o) → needs.Nodup → S A (PostC σ needs h g d os) ⟨h, g, d, t, os⟩) :
    SpecC pr w (ktA w) 111 1 800 8000 (.builtin id args) needs objs σ := by
  intro A h g d t os h1 h2 h3 hT hn ht hg _ _ hnd _
  show codeAny (model pr w) A _ (PostC σ needs h g d os) _
  refine codeAny_builtin he ?_
  rw [Around.under_plainId hp _]
  exact hm pr w A (PostC σ needs h g d os) ⟨h, g, d, t, os⟩ (H A h g d t os ht hg hnd)
theorem ladd_spec (w : World) (a b : Addr) (vs ws : List Value) (e f : Nat) (hl : vs.length + ws.length ≤ 1000) :
    SpecC pr w (ktA w) 111 1 800 8000 (.builtin "list.__add__" ⟨[.ref a, .ref b], []⟩) [a, b] [liS vs e, liS ws f] (hkL (vs ++ ws)) := by
  refine spec_meet w F.entry_list_add (by decide +kernel) (AutoSeq1.list___add___list_list_0 a ⟨vs⟩ e b ⟨ws⟩ f (Nat.le_trans hl (by decide))) fun A h g d t os ht hg hnd => ?_
  refine ⟨hg 0 a _ rfl rfl, hg 1 b _ rfl rfl, _, t, [], [h.objs.size], rfl, ht, rfl, rfl, fun _ hx => (nomatch hx), rfl, ?_⟩
  have e1 : (⟨vs⟩ : Array Value) ++ ⟨ws⟩ = ⟨vs ++ ws⟩ := by simp
  rw [e1]
  exact after_new h [a, b] (liS (vs ++ ws) 0) rfl
theorem after_turn (h h' : Heap) (a : Addr) (r : List Addr) (o : Obj) (hs : Heap.SameBut a h h') (ho : h'.get? a = some o) : After h h' (a :: r) [o] [] [] := by
  refine ⟨Nat.le_of_eq hs.1.symm, fun b x e hb => (hs.2 b fun q => hb (by subst q; exact .head _)).trans e, fun j b x e1 e2 => ?_, fun j b o e => by simp at e, List.nodup_nil, fun x hx => (nomatch hx)⟩
  match j with
  | 0 =>
    simp only [List.getElem?_cons_zero, Option.some.injEq] at e1 e2
    subst e1 e2
    exact ho
  | j + 1 => simp at e2
noncomputable def hkU (o : Obj) : Hk := { nt := 0, nn := 0, res := fun _ _ => .ok (.ret .none), news := fun _ _ => [], upd := fun _ _ => [o] }
theorem lapp_spec (w : World) (a : Addr) (vs : List Value) (e : Nat) (v : Value) (hl : vs.length ≤ 1000) :
    SpecC pr w (ktA w) 111 1 800 8000 (.builtin "list.append" ⟨[.ref a, v], []⟩) [a] [liS vs e] (hkU (liS (vs ++ [v]) (e + 1))) := by
  refine spec_meet w F.entry_list_append (by decide +kernel) (AutoListH.list_append_list_val_0 a ⟨vs⟩ e v (Nat.le_trans hl (by decide))) fun A h g d t os ht hg hnd => ?_
  have ga := hg 0 a _ rfl rfl
  refine ⟨ga, _, t, [], [], rfl, ht, rfl, rfl, fun _ hx => (nomatch hx), rfl, ?_⟩
  refine after_turn h _ a [] _ (Heap.SameBut.update ..) ?_
  have e1 : Obj.mapSeq (·.push v) (liS vs e) = liS (vs ++ [v]) (e + 1) := by simp [Obj.mapSeq, liS]
  rw [← e1]
  exact Heap.get?_update_self _ ga (by rw [e1]; rfl)
theorem lext_spec (w : World) (a b : Addr) (vs ws : List Value) (e f : Nat) (hl : vs.length ≤ 2000) (hl2 : ws.length ≤ 1000) :
    SpecC pr w (ktA w) 111 1 800 8000 (.builtin "list.extend" ⟨[.ref a, .ref b], []⟩) [a, b] [liS vs e, liS ws f] (hkU (liS (vs ++ ws) (if ws.length = 0 then e else e + 1))) := by
  refine spec_meet w F.entry_list_extend (by decide +kernel) (AutoSeq1.list_extend_list_list_0 a ⟨vs⟩ e b ⟨ws⟩ f ?_ (Nat.le_trans hl (by decide)) ?_) fun A h g d t os ht hg hnd => ?_
  · unfold Builtin.List.listTooLong
    have z : ¬ (vs.length + ws.length > sizeLine) := by rw [sizeLine_eq]; omega
    show ¬ (!_ && decide (vs.length + ws.length > sizeLine)) = true
    rw [decide_eq_false z, Bool.and_false]
    exact Bool.false_ne_true
  · show vs.length + ws.length ≤ _
    rw [sizeLine_eq]; omega
  · have ga := hg 0 a _ rfl rfl
    have gb := hg 1 b _ rfl rfl
    refine ⟨ga, gb, _, t, [], [], rfl, ht, rfl, rfl, fun _ hx => (nomatch hx), rfl, ?_⟩
    refine after_turn h _ a [b] _ (Heap.SameBut.update ..) ?_
    have e1 : Obj.mapSeq (fun x => x ++ (⟨ws⟩ : Array Value)) (liS vs e) = liS (vs ++ ws) (if ws.length = 0 then e else e + 1) := by
      simp [Obj.mapSeq, liS]
    rw [← e1]
    exact Heap.get?_update_self _ ga (by rw [e1]; rfl)
noncomputable abbrev riO (x left : Int) : Obj := { cls := .type "range_iterator", data := .fields #[.int x 0, .int left 0, .int 1 0] }
noncomputable def hkRn (x left : Int) : Hk := { nt := 1, nn := 0, res := fun tv _ => .ok (.ret (.int x (tv.getD 0 0))), news := fun _ _ => [], upd := fun _ _ => [riO (x + 1) (left - 1)] }
end Mine
end
section
open PySem PySem.W PyProof.Rows PySem.W.X Mine
set_option Elab.async false
set_option maxRecDepth 100000
set_option maxHeartbeats 0
set_option linter.unusedVariables false
namespace Mine
theorem small_range (n : Int) (h0 : 0 ≤ n) (h1 : n ≤ 1000) : Builtin.Range.small 0 n 1 = true ∧ Builtin.Range.rangeSize 0 n 1 = n := by
  have e : Builtin.Range.rangeSize 0 n 1 = n := by
    unfold Builtin.Range.rangeSize
    rw [if_pos (by decide)]
    split <;> omega
  refine ⟨?_, e⟩
  unfold Builtin.Range.small
  rw [e]
  have f : ∀ i : Int, 0 ≤ i → i ≤ 1000 → Builtin.Range.rangeFitsLong i = true := fun i a b => by
    unfold Builtin.Range.rangeFitsLong
    simp only [Bool.and_eq_true, decide_eq_true_eq]
    omega
  rw [f 0 (by decide) (by decide), f n h0 h1, f 1 (by decide) (by decide), if_pos (by decide), f (n + (1 - 1)) (by omega) (by omega)]
  simp
noncomputable abbrev rgO (a b c : Int) (t u v : Nat) : Obj := { cls := .type "range", data := .fields #[.int a t, .int b u, .int c v] }
noncomputable def hkRi (n : Int) : Hk := { nt := 0, nn := 1, res := fun _ av => .ok (.ret (.ref (av.getD 0 0))), news := fun _ _ => [riO 0 n], upd := fun _ _ => [] }
theorem rit_spec (w : World) (r : Addr) (n : Int) (t u v : Nat) (h0 : 0 ≤ n) (h1 : n ≤ 1000) : SpecC pr w (ktA w) 111 1 800 8000 (.builtin "range.__iter__" ⟨[.ref r], []⟩) [r] [rgO 0 n 1 t u v] (hkRi n) := by
  obtain ⟨hs, hz⟩ := small_range n h0 h1
  refine spec_meet w F.entry_range_iter (by decide +kernel) (AutoRange.range___iter___range_1 r 0 n 1 t u v (by unfold Builtin.Range.small at hs; rw [hs]; exact Bool.false_ne_true)) fun A h g d tk os ht hg hnd => ⟨hg 0 r _ rfl rfl, ?_⟩
  unfold Builtin.Range.small at hs
  simp only [hs, if_true]
  rw [hz]
  exact ⟨_, tk, [], [h.objs.size], rfl, ht, rfl, rfl, fun _ hx => (nomatch hx), rfl, after_new h [r] (riO 0 n) rfl⟩
theorem rnext_spec (w : World) (a : Addr) (x left : Int) (hl : 0 < left) : SpecC pr w (ktA w) 111 1 800 8000 (.builtin "range_iterator.__next__" ⟨[.ref a], []⟩) [a] [riO x left] (hkRn x left) := by
  refine spec_meet w F.entry_range_iterator_next (by decide +kernel) (AutoRange.range_iterator___next___range_iterator_1 a x left 1 (by omega)) fun A h g d tk os ht hg hnd => ?_
  have ga := hg 0 a _ rfl rfl
  refine ⟨ga, _, tk + 1, [tk], [], rfl, Nat.le_succ_of_le ht, rfl, rfl, fun x hx => by cases List.mem_singleton.mp hx; exact ht, rfl, ?_⟩
  exact after_turn h _ a [] _ ((Heap.SameBut.update ..).trans (Heap.SameBut.update ..)) (Heap.get?_update_self _ (Heap.get?_update_self _ ga rfl) rfl)
noncomputable def strictS {α : Sort _} (v : Value) (f : Str → Nat → α) : α := match v with
  | .str x t => f x t
  | v => f (strOf v) (tokOf v)
theorem strictS_eq {α : Sort _} (v : Value) (f : Str → Nat → α) : strictS v f = f (strOf v) (tokOf v) := by cases v <;> rfl
noncomputable def strictL {α : Sort _} (o : Obj) (f : List Value → Nat → α) : α := match o.data with
  | .seq vs n => f vs.toList n
  | _ => f (sqAt o) (epAt o)
theorem strictL_eq {α : Sort _} (o : Obj) (f : List Value → Nat → α) : strictL o f = f (sqAt o) (epAt o) := by
  unfold strictL sqAt epAt
  cases o.data <;> rfl
noncomputable def strictR {α : Sort _} (v : Value) (f : Addr → α) : α := match v with
  | .ref a => f a
  | v => f (refA v)
theorem strictR_eq {α : Sort _} (v : Value) (f : Addr → α) : strictR v f = f (refA v) := by cases v <;> rfl
noncomputable def siterG' (x : Str) (t : Nat) : GH := { needs := [], code := fun _ => .builtin "" ⟨[.str x t], []⟩, props := fun _ => [x.cps.all (· < 128) = true], objs := fun _ => [], hk := fun _ => hkIter x t }
noncomputable def siterG (a : Args) : GH := strictS (pA a 0) siterG'
noncomputable def siterHook : Code → Option Hr := bHook 29827162783706237342122734964 (len1 isStr) siterG
theorem siter_hook (w : World) : HookS pr w (ktA w) 111 1 800 8000 siterHook := by
  unfold siterHook
  rw [show siterG = fun a => siterG' (strOf (pA a 0)) (tokOf (pA a 0)) from funext fun a => strictS_eq _ _]
  exact bHook_n (name := "str.__iter__") (by decide +kernel) 0 (fun _ _ => rfl) fun a f hp => siter_spec w _ _ (hp _ (.head _))
noncomputable def siX (o : Obj) : Str := strOf (fiAt o 0)
noncomputable def siT (o : Obj) : Nat := tokOf (fiAt o 0)
noncomputable def siI (o : Obj) : Nat := (intOf (fiAt o 1)).toNat
noncomputable def snextG (c : Nat) (a : Args) : GH := { needs := [refA (pA a 0)], code := fun _ => .builtin "" ⟨[.ref (refA (pA a 0))], []⟩, props := fun l => [(siX (oAt l 0)).cps.toList[siI (oAt l 0)]? = some c], objs := fun l => [siO (siX (oAt l 0)) (siT (oAt l 0)) (siI (oAt l 0))], hk := fun l => hkNext (siX (oAt l 0)) (siT (oAt l 0)) (siI (oAt l 0)) c }
noncomputable def snextHook (c : Nat) : Code → Option Hr := bHook 39647112825583545393006412691359451730623858335503063133055055220 (len1 isRef) (snextG c)
theorem snext_hook (w : World) (c : Nat) : HookS pr w (ktA w) 111 1 800 8000 (snextHook c) :=
  bHook_n (name := "str_ascii_iterator.__next__") (by decide +kernel) 1 (fun _ _ => rfl) fun a f hp => snext_spec w _ _ _ _ c (hp _ (.head _))
theorem con_spec (w : World) (x : Str) (c tx ty : Nat) : SpecC pr w (ktA w) 111 1 800 8000 (.builtin "str.__contains__" ⟨[.str x tx, .str ⟨#[c]⟩ ty], []⟩) [] [] (hkB (decide (c ∈ x.cps.toList))) := by
  refine spec_meet w PySem.F.entry_str_contains (by decide +kernel) (S := fun _ R s => (Made.val (.bool !(Builtin.Str.occurrences x ⟨#[c]⟩ 0 x.length 1).isEmpty)).post (fun v s' => R (.ok (.ret v)) s') s) (gives_str_contains x ⟨#[c]⟩ tx ty) fun A h g d t os ht hg hnd => ?_
  rw [StrLaws.found_one]
  exact ⟨h, t, [], [], rfl, ht, rfl, rfl, fun _ hx => (nomatch hx), rfl, after_same h []⟩
noncomputable def chOf (v : Value) : Nat := (strOf v).cps.toList.headD 0
noncomputable def conG (β : Bool) (a : Args) : GH := { needs := [], code := fun _ => .builtin "" ⟨[.str (strOf (pA a 0)) (tokOf (pA a 0)), .str ⟨#[chOf (pA a 1)]⟩ (tokOf (pA a 1))], []⟩, props := fun _ => [decide (chOf (pA a 1) ∈ (strOf (pA a 0)).cps.toList) = β], objs := fun _ => [], hk := fun _ => hkB β }
noncomputable def conHook (β : Bool) : Code → Option Hr := bHook 128106709680535770272165659069392319860 (two isStr) (conG β)
theorem con_hook (w : World) (β : Bool) : HookS pr w (ktA w) 111 1 800 8000 (conHook β) :=
  bHook_n (name := "str.__contains__") (by decide +kernel) 0 (fun _ _ => rfl) fun a f hp => by
    have e : decide (chOf (pA a 1) ∈ (strOf (pA a 0)).cps.toList) = β := hp _ (.head _)
    have z := con_spec w (strOf (pA a 0)) (chOf (pA a 1)) (tokOf (pA a 0)) (tokOf (pA a 1))
    rw [e] at z
    exact z
noncomputable def saddG' (x : Str) (t : Nat) (y : Str) (u : Nat) : GH := { needs := [], code := fun _ => .builtin "" ⟨[.str x t, .str y u], []⟩, props := fun _ => [1 ≤ t, 1 ≤ u, x.length + y.length ≤ 1000], objs := fun _ => [], hk := fun _ => hkStr (x ++ y) }
noncomputable def saddG (a : Args) : GH := strictS (pA a 0) fun x t => strictS (pA a 1) fun y u => saddG' x t y u
noncomputable def saddHook : Code → Option Hr := bHook 116512096292018843154609524 (two isStr) saddG
theorem sadd_hook (w : World) : HookS pr w (ktA w) 111 1 800 8000 saddHook := by
  unfold saddHook
  rw [show saddG = fun a => saddG' (strOf (pA a 0)) (tokOf (pA a 0)) (strOf (pA a 1)) (tokOf (pA a 1)) from funext fun a => (strictS_eq _ _).trans (strictS_eq _ _)]
  exact bHook_n (name := "str.__add__") (by decide +kernel) 0 (fun _ _ => rfl) fun a f hp => add_spec w _ _ _ _ (hp _ (.head _)) (hp _ (.tail _ (.head _))) (hp _ (.tail _ (.tail _ (.head _))))
noncomputable def smulG' (x : Str) (t : Nat) (n : Int) (u : Nat) : GH := { needs := [], code := fun _ => .builtin "" ⟨[.str x t, .int n u], []⟩, props := fun _ => [1 ≤ t, n = 0 ∨ n = 1, x.length ≤ 1000], objs := fun _ => [], hk := fun _ => hkStr (mulS x n) }
noncomputable def strInt (a : Args) : Bool := match Nat.beq a.pos.length 2 with
  | true => match isStr (pA a 0) with
    | true => isInt (pA a 1)
    | false => false
  | false => false
noncomputable def smulG (a : Args) : GH := strictS (pA a 0) fun x t => strictI (pA a 1) fun n u => smulG' x t n u
noncomputable def smulHook : Code → Option Hr := bHook 116512245094328231196325236 strInt smulG
theorem smul_hook (w : World) : HookS pr w (ktA w) 111 1 800 8000 smulHook := by
  unfold smulHook
  rw [show smulG = fun a => smulG' (strOf (pA a 0)) (tokOf (pA a 0)) (intOf (pA a 1)) (tokOf (pA a 1)) from funext fun a => (strictS_eq _ _).trans (strictI_eq _ _)]
  exact bHook_n (name := "str.__mul__") (by decide +kernel) 0 (fun _ _ => rfl) fun a f hp => smul_spec w _ _ _ _ (hp _ (.head _)) (hp _ (.tail _ (.head _))) (hp _ (.tail _ (.tail _ (.head _))))
noncomputable def catV : List Value → List Nat
  | [] => []
  | v :: l => (strOf v).cps.toList ++ catV l
noncomputable def StrsOk (L : List Value) : Prop := ∃ l : List (Str × Nat), L = strValues l ∧ (catL l).length ≤ 1000 ∧ ∀ p ∈ l, 1 ≤ p.2
theorem catV_eq : ∀ l : List (Str × Nat), catV (strValues l) = catL l
  | [] => rfl
  | p :: l => by
    show p.1.cps.toList ++ catV (strValues l) = p.1.cps.toList ++ catL l
    rw [catV_eq l]
noncomputable def sjoinG (a : Args) : GH := { needs := [refA (pA a 1)], code := fun _ => .builtin "" ⟨[.str ⟨#[]⟩ (tokOf (pA a 0)), .ref (refA (pA a 1))], []⟩, props := fun l => [StrsOk (sqAt (oAt l 0))], objs := fun l => [liS (sqAt (oAt l 0)) (epAt (oAt l 0))], hk := fun l => strictL (oAt l 0) fun vs _ => hkStr (sL (catV vs)) }
noncomputable def strRef (a : Args) : Bool := match Nat.beq a.pos.length 2 with
  | true => match isStr (pA a 0) with
    | true => isRef (pA a 1)
    | false => false
  | false => false
noncomputable def sjoinHook : Code → Option Hr := bHook 8028352891401237876 strRef sjoinG
theorem sjoin_hook (w : World) : HookS pr w (ktA w) 111 1 800 8000 sjoinHook :=
  bHook_n (name := "str.join") (by decide +kernel) 1 (fun _ _ => rfl) fun a f hp => by
    obtain ⟨l, e, h1, h2⟩ := hp _ (.head _)
    have e' : sqAt (f 0) = strValues l := e
    have z := join_spec w (refA (pA a 1)) l (epAt (f 0)) (tokOf (pA a 0)) h1 h2
    rw [← catV_eq, ← e'] at z
    have eh : (sjoinG a).hk ((List.range 1).map f) = hkStr (sL (catV (sqAt (f 0)))) := strictL_eq (f 0) (fun vs _ => hkStr (sL (catV vs)))
    rw [eh]
    exact z
noncomputable def partOf : Value → Option (Int × Nat)
  | .int i t => some (i, t)
  | _ => none
noncomputable def SlOk (x : Str) (t : Nat) (lo hi : Option (Int × Nat)) : Prop := 1 ≤ t ∧ 0 ≤ (lo.map Prod.fst).getD 0 ∧ (lo.map Prod.fst).getD 0 ≤ (hi.map Prod.fst).getD (x.cps.toList.length : Int) ∧ (hi.map Prod.fst).getD (x.cps.toList.length : Int) ≤ (x.cps.toList.length : Int) ∧ x.cps.toList.length ≤ 1000
noncomputable def slCut (x : Str) (lo hi : Option (Int × Nat)) : Str := cutS x ((lo.map Prod.fst).getD 0).toNat ((hi.map Prod.fst).getD (x.cps.toList.length : Int)).toNat
noncomputable def strictP {α : Sort _} (v : Value) (f : Option (Int × Nat) → α) : α := match v with
  | .int i t => f (some (i, t))
  | v => f (partOf v)
theorem strictP_eq {α : Sort _} (v : Value) (f : Option (Int × Nat) → α) : strictP v f = f (partOf v) := by cases v <;> rfl
noncomputable def sliceG' (x : Str) (t : Nat) (b : Addr) : GH := { needs := [b], code := fun _ => .builtin "" ⟨[.str x t, .ref b], []⟩, props := fun l => [strictP (fiAt (oAt l 0) 0) fun lo => strictP (fiAt (oAt l 0) 1) fun hi => SlOk x t lo hi], objs := fun l => [slO (partOf (fiAt (oAt l 0) 0)) (partOf (fiAt (oAt l 0) 1))], hk := fun l => strictP (fiAt (oAt l 0) 0) fun lo => strictP (fiAt (oAt l 0) 1) fun hi => hkStr (slCut x lo hi) }
noncomputable def sliceG (a : Args) : GH := strictS (pA a 0) fun x t => sliceG' x t (refA (pA a 1))
noncomputable def sliceHook : Code → Option Hr := bHook 500416356548588640944365259017385332 strRef sliceG
theorem slice_hook (w : World) : HookS pr w (ktA w) 111 1 800 8000 sliceHook := by
  unfold sliceHook
  rw [show sliceG = fun a => sliceG' (strOf (pA a 0)) (tokOf (pA a 0)) (refA (pA a 1)) from funext fun a => strictS_eq _ _]
  refine bHook_n (name := "str.__getitem__") (by decide +kernel) 1 (fun _ _ => rfl) fun a f hp => ?_
  have hP : SlOk (strOf (pA a 0)) (tokOf (pA a 0)) (partOf (fiAt (f 0) 0)) (partOf (fiAt (f 0) 1)) := Eq.mp ((strictP_eq (fiAt (f 0) 0) (fun lo => strictP (fiAt (f 0) 1) fun hi => SlOk (strOf (pA a 0)) (tokOf (pA a 0)) lo hi)).trans (strictP_eq (fiAt (f 0) 1) (fun hi => SlOk (strOf (pA a 0)) (tokOf (pA a 0)) (partOf (fiAt (f 0) 0)) hi))) (hp _ (.head _))
  obtain ⟨h1, h2, h3, h4, h5⟩ := hP
  have eh : (sliceG' (strOf (pA a 0)) (tokOf (pA a 0)) (refA (pA a 1))).hk ((List.range 1).map f) = hkStr (slCut (strOf (pA a 0)) (partOf (fiAt (f 0) 0)) (partOf (fiAt (f 0) 1))) := (strictP_eq (fiAt (f 0) 0) (fun lo => strictP (fiAt (f 0) 1) fun hi => hkStr (slCut (strOf (pA a 0)) lo hi))).trans (strictP_eq (fiAt (f 0) 1) (fun hi => hkStr (slCut (strOf (pA a 0)) (partOf (fiAt (f 0) 0)) hi)))
  show SpecC _ _ _ _ _ _ _ _ _ _ { (sliceG' (strOf (pA a 0)) (tokOf (pA a 0)) (refA (pA a 1))).hk ((List.range 1).map f) with eqs := [] }
  rw [eh]
  have h6 := Int.le_trans h2 h3
  exact slice_spec w _ _ _ _ _ _ _ h1 (Int.toNat_of_nonneg h2).symm (Int.toNat_of_nonneg h6).symm (by omega) (by omega) h5
noncomputable def countG (a : Args) : GH := strictS (pA a 0) fun x t => { needs := [], code := fun _ => .builtin "" ⟨[.str x t, .str ⟨#[chOf (pA a 1)]⟩ (tokOf (pA a 1))], []⟩, objs := fun _ => [], hk := fun _ => hkI (.ofNat (cntL (chOf (pA a 1)) x.cps.toList)) }
noncomputable def countHook : Code → Option Hr := bHook 2166300787185074533748 (two isStr) countG
theorem count_hook (w : World) : HookS pr w (ktA w) 111 1 800 8000 countHook := by
  unfold countHook
  rw [show countG = fun a => { needs := [], code := fun _ => .builtin "" ⟨[.str (strOf (pA a 0)) (tokOf (pA a 0)), .str ⟨#[chOf (pA a 1)]⟩ (tokOf (pA a 1))], []⟩, objs := fun _ => [], hk := fun _ => hkI (.ofNat (cntL (chOf (pA a 1)) (strOf (pA a 0)).cps.toList)) } from funext fun a => strictS_eq _ _]
  exact bHook_n (name := "str.count") (by decide +kernel) 0 (fun _ _ => rfl) fun a f hp => count_spec w _ _ _ _
noncomputable def rindexG (a : Args) : GH := strictS (pA a 0) fun x t => { needs := [], code := fun _ => .builtin "" ⟨[.str x t, .str ⟨#[chOf (pA a 1)]⟩ (tokOf (pA a 1))], []⟩, props := fun _ => [1 ≤ cntL (chOf (pA a 1)) x.cps.toList], objs := fun _ => [], hk := fun _ => hkI (.ofNat (lastIx (chOf (pA a 1)) x.cps.toList)) }
noncomputable def rindexHook : Code → Option Hr := bHook 573295221500508640605556 (two isStr) rindexG
theorem rindex_hook (w : World) : HookS pr w (ktA w) 111 1 800 8000 rindexHook := by
  unfold rindexHook
  rw [show rindexG = fun a => { needs := [], code := fun _ => .builtin "" ⟨[.str (strOf (pA a 0)) (tokOf (pA a 0)), .str ⟨#[chOf (pA a 1)]⟩ (tokOf (pA a 1))], []⟩, props := fun _ => [1 ≤ cntL (chOf (pA a 1)) (strOf (pA a 0)).cps.toList], objs := fun _ => [], hk := fun _ => hkI (.ofNat (lastIx (chOf (pA a 1)) (strOf (pA a 0)).cps.toList)) } from funext fun a => strictS_eq _ _]
  exact bHook_n (name := "str.rindex") (by decide +kernel) 0 (fun _ _ => rfl) fun a f hp => rindex_spec w _ _ _ _ (hp _ (.head _))
end Mine
end
section
open PySem PySem.W PyProof.Rows PySem.W.X Mine
set_option Elab.async false
set_option maxRecDepth 100000
set_option maxHeartbeats 0
set_option linter.unusedVariables false
namespace Mine
noncomputable def itV (vs : List Value) (i : Nat) : Value := .int (intOf (vs.getD i .none)) (tokOf (vs.getD i .none))
noncomputable def ItemOk (vs : List Value) (k : Int) : Prop := 0 ≤ k ∧ k < 1000 ∧ vs[k.toNat]? = some (itV vs k.toNat)
noncomputable def itemG' (l : Addr) (k : Int) (t : Nat) : GH := { needs := [l], code := fun _ => .builtin "" ⟨[.ref l, .int k t], []⟩, props := fun o => [ItemOk (sqAt (oAt o 0)) k], objs := fun o => [liS (sqAt (oAt o 0)) (epAt (oAt o 0))], hk := fun o => strictL (oAt o 0) fun vs _ => hkV (itV vs k.toNat) }
noncomputable def itemG (a : Args) : GH := strictI (pA a 1) fun k t => itemG' (refA (pA a 0)) k t
noncomputable def itemHook : Code → Option Hr := bHook 128106587276438692081757506308484131437 refInt itemG
theorem item_hook (w : World) : HookS pr w (ktA w) 111 1 800 8000 itemHook := by
  unfold itemHook
  rw [show itemG = fun a => itemG' (refA (pA a 0)) (intOf (pA a 1)) (tokOf (pA a 1)) from funext fun a => strictI_eq _ _]
  refine bHook_n (name := "list.__getitem__") (by decide +kernel) 1 (fun _ _ => rfl) fun a f hp => ?_
  obtain ⟨h1, h2, h3⟩ := hp _ (.head _)
  have eh : (itemG' (refA (pA a 0)) (intOf (pA a 1)) (tokOf (pA a 1))).hk ((List.range 1).map f) = hkV (itV (sqAt (f 0)) (intOf (pA a 1)).toNat) := strictL_eq (f 0) (fun vs _ => hkV (itV vs (intOf (pA a 1)).toNat))
  show SpecC _ _ _ _ _ _ _ _ _ _ { (itemG' (refA (pA a 0)) (intOf (pA a 1)) (tokOf (pA a 1))).hk ((List.range 1).map f) with eqs := [] }
  rw [eh]
  exact item_spec w _ _ _ _ _ _ h1 h2 h3
noncomputable def LastOk (vs : List Value) : Prop := 1 ≤ vs.length ∧ vs[vs.length - 1]? = some (itV vs (vs.length - 1))
noncomputable def lastG (a : Args) : GH := { needs := [refA (pA a 0)], code := fun _ => .builtin "" ⟨[.ref (refA (pA a 0)), .int (-1) (tokOf (pA a 1))], []⟩, props := fun o => [LastOk (sqAt (oAt o 0))], objs := fun o => [liS (sqAt (oAt o 0)) (epAt (oAt o 0))], hk := fun o => strictL (oAt o 0) fun vs _ => hkV (itV vs (vs.length - 1)) }
noncomputable def lastHook : Code → Option Hr := bHook 128106587276438692081757506308484131437 refInt lastG
theorem last_hook (w : World) : HookS pr w (ktA w) 111 1 800 8000 lastHook := by
  refine bHook_n (name := "list.__getitem__") (by decide +kernel) 1 (fun _ _ => rfl) fun a f hp => ?_
  obtain ⟨h1, h2⟩ := hp _ (.head _)
  have eh : (lastG a).hk ((List.range 1).map f) = hkV (itV (sqAt (f 0)) ((sqAt (f 0)).length - 1)) := strictL_eq (f 0) (fun vs _ => hkV (itV vs (vs.length - 1)))
  show SpecC _ _ _ _ _ _ _ _ _ _ { (lastG a).hk ((List.range 1).map f) with eqs := [] }
  rw [eh]
  refine itemN_spec w _ _ _ _ (-1) _ (by decide) ?_ (by decide) ?_
  · have : 1 ≤ (sqAt (f 0)).length := h1
    omega
  · have e : ((-1 : Int) + ((sqAt (oAt (List.map f (List.range 1)) 0)).length : Int)).toNat = (sqAt (oAt (List.map f (List.range 1)) 0)).length - 1 := by omega
    rw [e]
    exact h2
noncomputable def laddG (a : Args) : GH := { needs := [refA (pA a 0), refA (pA a 1)], code := fun _ => .builtin "" ⟨[.ref (refA (pA a 0)), .ref (refA (pA a 1))], []⟩, props := fun l => [(sqAt (oAt l 0)).length + (sqAt (oAt l 1)).length ≤ 1000], objs := fun l => [liS (sqAt (oAt l 0)) (epAt (oAt l 0)), liS (sqAt (oAt l 1)) (epAt (oAt l 1))], hk := fun l => strictL (oAt l 0) fun vs _ => strictL (oAt l 1) fun ws _ => hkL (vs ++ ws) }
noncomputable def laddHook : Code → Option Hr := bHook 29827096650756823847613524589 (two isRef) laddG
theorem ladd_hook (w : World) : HookS pr w (ktA w) 111 1 800 8000 laddHook :=
  bHook_n (name := "list.__add__") (by decide +kernel) 2 (fun _ _ => rfl) fun a f hp => by
    have eh : (laddG a).hk ((List.range 2).map f) = hkL (sqAt (f 0) ++ sqAt (f 1)) := (strictL_eq (f 0) (fun vs _ => strictL (f 1) fun ws _ => hkL (vs ++ ws))).trans (strictL_eq (f 1) (fun ws _ => hkL (sqAt (f 0) ++ ws)))
    show SpecC _ _ _ _ _ _ _ _ _ _ { (laddG a).hk ((List.range 2).map f) with eqs := [] }
    rw [eh]
    exact ladd_spec w _ _ _ _ _ _ (hp _ (.head _))
noncomputable def refAny (a : Args) : Bool := match Nat.beq a.pos.length 2 with
  | true => isRef (pA a 0)
  | false => false
noncomputable def lappG (a : Args) : GH := { needs := [refA (pA a 0)], code := fun _ => .builtin "" ⟨[.ref (refA (pA a 0)), pA a 1], []⟩, props := fun l => [(sqAt (oAt l 0)).length ≤ 1000], objs := fun l => [liS (sqAt (oAt l 0)) (epAt (oAt l 0))], hk := fun l => strictL (oAt l 0) fun vs e => hkU (liS (vs ++ [pA a 1]) (e + 1)) }
noncomputable def lappHook : Code → Option Hr := bHook 122627580202994350266018413 refAny lappG
theorem lapp_hook (w : World) : HookS pr w (ktA w) 111 1 800 8000 lappHook :=
  bHook_n (name := "list.append") (by decide +kernel) 1 (fun _ _ => rfl) fun a f hp => by
    have eh : (lappG a).hk ((List.range 1).map f) = hkU (liS (sqAt (f 0) ++ [pA a 1]) (epAt (f 0) + 1)) := strictL_eq (f 0) (fun vs e => hkU (liS (vs ++ [pA a 1]) (e + 1)))
    show SpecC _ _ _ _ _ _ _ _ _ _ { (lappG a).hk ((List.range 1).map f) with eqs := [] }
    rw [eh]
    exact lapp_spec w _ _ _ _ (hp _ (.head _))
noncomputable def lextG (a : Args) : GH := { needs := [refA (pA a 0), refA (pA a 1)], code := fun _ => .builtin "" ⟨[.ref (refA (pA a 0)), .ref (refA (pA a 1))], []⟩, props := fun l => [(sqAt (oAt l 0)).length ≤ 2000, (sqAt (oAt l 1)).length ≤ 1000], objs := fun l => [liS (sqAt (oAt l 0)) (epAt (oAt l 0)), liS (sqAt (oAt l 1)) (epAt (oAt l 1))], hk := fun l => strictL (oAt l 0) fun vs e => strictL (oAt l 1) fun ws _ => hkU (liS (vs ++ ws) (if ws.length = 0 then e else e + 1)) }
noncomputable def lextHook : Code → Option Hr := bHook 122627580493480924277926509 (two isRef) lextG
theorem lext_hook (w : World) : HookS pr w (ktA w) 111 1 800 8000 lextHook :=
  bHook_n (name := "list.extend") (by decide +kernel) 2 (fun _ _ => rfl) fun a f hp => by
    have eh : (lextG a).hk ((List.range 2).map f) = hkU (liS (sqAt (f 0) ++ sqAt (f 1)) (if (sqAt (f 1)).length = 0 then epAt (f 0) else epAt (f 0) + 1)) := (strictL_eq (f 0) (fun vs e => strictL (f 1) fun ws _ => hkU (liS (vs ++ ws) (if ws.length = 0 then e else e + 1)))).trans (strictL_eq (f 1) (fun ws _ => hkU (liS (sqAt (f 0) ++ ws) (if ws.length = 0 then epAt (f 0) else epAt (f 0) + 1))))
    show SpecC _ _ _ _ _ _ _ _ _ _ { (lextG a).hk ((List.range 2).map f) with eqs := [] }
    rw [eh]
    exact lext_spec w _ _ _ _ _ _ (hp _ (.head _)) (hp _ (.tail _ (.head _)))
noncomputable def ritG (a : Args) : GH := { needs := [refA (pA a 0)], code := fun _ => .builtin "" ⟨[.ref (refA (pA a 0))], []⟩, props := fun l => [0 ≤ intOf (fiAt (oAt l 0) 1), intOf (fiAt (oAt l 0) 1) ≤ 1000], objs := fun l => [rgO 0 (intOf (fiAt (oAt l 0) 1)) 1 (tokOf (fiAt (oAt l 0) 0)) (tokOf (fiAt (oAt l 0) 1)) (tokOf (fiAt (oAt l 0) 2))], hk := fun l => strictI (fiAt (oAt l 0) 1) fun n _ => hkRi n }
noncomputable def ritHook : Code → Option Hr := bHook 1954752940192971970453299505619571 (len1 isRef) ritG
theorem rit_hook (w : World) : HookS pr w (ktA w) 111 1 800 8000 ritHook :=
  bHook_n (name := "range.__iter__") (by decide +kernel) 1 (fun _ _ => rfl) fun a f hp => by
    have eh : (ritG a).hk ((List.range 1).map f) = hkRi (intOf (fiAt (f 0) 1)) := strictI_eq (fiAt (f 0) 1) (fun n _ => hkRi n)
    show SpecC _ _ _ _ _ _ _ _ _ _ { (ritG a).hk ((List.range 1).map f) with eqs := [] }
    rw [eh]
    exact rit_spec w _ _ _ _ _ (hp _ (.head _)) (hp _ (.tail _ (.head _)))
noncomputable def rnextG (a : Args) : GH := { needs := [refA (pA a 0)], code := fun _ => .builtin "" ⟨[.ref (refA (pA a 0))], []⟩, props := fun l => [0 < intOf (fiAt (oAt l 0) 1)], objs := fun l => [riO (intOf (fiAt (oAt l 0) 0)) (intOf (fiAt (oAt l 0) 1))], hk := fun l => strictI (fiAt (oAt l 0) 0) fun x _ => strictI (fiAt (oAt l 0) 1) fun y _ => hkRn x y }
noncomputable def rnextHook : Code → Option Hr := bHook 9231062798198206674541908477283886571094360729114862195 (len1 isRef) rnextG
theorem rnext_hook (w : World) : HookS pr w (ktA w) 111 1 800 8000 rnextHook :=
  bHook_n (name := "range_iterator.__next__") (by decide +kernel) 1 (fun _ _ => rfl) fun a f hp => by
    have z := rnext_spec w (refA (pA a 0)) (intOf (fiAt (f 0) 0)) (intOf (fiAt (f 0) 1)) (hp _ (.head _))
    have e : (rnextG a).hk ((List.range 1).map f) = hkRn (intOf (fiAt (f 0) 0)) (intOf (fiAt (f 0) 1)) := (strictI_eq _ _).trans (strictI_eq _ _)
    rw [e]
    exact z
noncomputable def eqG (β : Bool) (a : Args) : GH := { needs := [], code := fun _ => .builtin "" ⟨[.int (intOf (pA a 0)) (tokOf (pA a 0)), .int (intOf (pA a 1)) (tokOf (pA a 1))], []⟩, props := fun _ => [decide (intOf (pA a 0) = intOf (pA a 1)) = β], objs := fun _ => [], hk := fun _ => hkB β }
noncomputable def eqHook (β : Bool) : Code → Option Hr := bHook 455126313168696235093866 (two isInt) (eqG β)
theorem eq_hook (w : World) (β : Bool) : HookS pr w (ktA w) 111 1 800 8000 (eqHook β) :=
  bHook_n (name := "int.__eq__") (by decide +kernel) 0 (fun _ _ => rfl) fun a f hp => by
    have e' : decide (intOf (pA a 0) = intOf (pA a 1)) = β := hp _ (.head _)
    have z := eq_spec w (intOf (pA a 0)) (intOf (pA a 1)) (tokOf (pA a 0)) (tokOf (pA a 1))
    rw [show @decide (intOf (pA a 0) = intOf (pA a 1)) (Z.eqZ (intOf (pA a 0)) (intOf (pA a 1))) = β from (by rw [← e']; congr)] at z
    exact z
theorem ne_spec (w : World) (a b : Int) (ta tb : Nat) : SpecC pr w (ktA w) 111 1 800 8000 (.builtin "int.__ne__" ⟨[.int a ta, .int b tb], []⟩) [] [] (hkB (!(@decide (a = b) (Z.eqZ a b)))) := by
  exact spec_run (dmh := 0) (umh := 0) (hook := fun _ => none) 1000 [] [] [] (ktA_bound w) HookS.none rfl rfl (fun _ _ => rfl) rfl rfl List.nodup_nil (orc0 (by kernel_rfl))
noncomputable def neG (a : Args) : GH := { needs := [], code := fun _ => .builtin "" ⟨[.int (intOf (pA a 0)) (tokOf (pA a 0)), .int (intOf (pA a 1)) (tokOf (pA a 1))], []⟩, props := fun _ => [intOf (pA a 0) = intOf (pA a 1)], objs := fun _ => [], hk := fun _ => hkB false }
noncomputable def neHook : Code → Option Hr := bHook 455125451010842570354538 (two isInt) neG
theorem ne_hook (w : World) : HookS pr w (ktA w) 111 1 800 8000 neHook :=
  bHook_n (name := "int.__ne__") (by decide +kernel) 0 (fun _ _ => rfl) fun a f hp => by
    have e : intOf (pA a 0) = intOf (pA a 1) := hp _ (.head _)
    have z := ne_spec w (intOf (pA a 0)) (intOf (pA a 1)) (tokOf (pA a 0)) (tokOf (pA a 1))
    rw [show (!(@decide (intOf (pA a 0) = intOf (pA a 1)) (Z.eqZ (intOf (pA a 0)) (intOf (pA a 1))))) = false from (by rw [Bool.not_eq_false']; exact @decide_eq_true _ (Z.eqZ _ _) e)] at z
    exact z
end Mine
end
section
open PySem PySem.W PyProof.Rows PySem.W.X Mine
set_option Elab.async false
set_option maxRecDepth 100000
set_option maxHeartbeats 0
set_option linter.unusedVariables false
namespace Mine
section
variable (w : World) (L cell f : Addr) (tv av : List Nat)
noncomputable def kObs : List Obj := [refObj (clsOut w L cell f tv av) 60, refObj (clsOut w L cell f tv av) 61, refObj (clsOut w L cell f tv av) 17, refObj (clsOut w L cell f tv av) 16, refObj (clsOut w L cell f tv av) 59, refObj (clsOut w L cell f tv av) 25, refObj (clsOut w L cell f tv av) 24, cellO f, refObj (clsOut w L cell f tv av) 33, refObj (clsOut w L cell f tv av) 32]
noncomputable def kpR : KP := kGet (av.getD 57 0) (kObs w L cell f tv av)
noncomputable def kpD : KP := { kpR w L cell f tv av with C := av.getD 57 0, N := av.getD 58 0, f0 := av.getD 14 0, f1 := av.getD 22 0, f2 := av.getD 30 0, c0 := av.getD 13 0, c1 := av.getD 21 0, c2 := av.getD 29 0, md := av.getD 56 0, cell := cell, fn := f }
end
theorem kObs_eq (w : World) (f : Addr) (x y : Nat → Nat) (l c : Nat) : kObs w (l + 111) (c + 111) f ((List.range 76).map fun i => y i + 1) ((List.range 59).map fun i => x i + 111) = (kpD w (l + 111) (c + 111) f ((List.range 76).map fun i => y i + 1) ((List.range 59).map fun i => x i + 111)).os w := by kernel_rfl
noncomputable def pickO (w : World) (k : KP) (X : SOut) (i : Nat) : Obj := match i with
  | 60 => k.oC
  | 61 => k.oN
  | 17 => k.o0 w
  | 16 => coO k.v0 k.q0 k.u0 k.r0
  | 59 => mdO k.C k.tm
  | 25 => k.o1 w
  | 24 => coO k.v1 k.q1 k.u1 k.r1
  | 33 => k.o2 w
  | 32 => coO k.v2 k.q2 k.u2 k.r2
  | i => refObj X i
noncomputable def clsNews2 (w : World) (L cell f : Addr) (tv av : List Nat) : List Obj := (List.range' 3 59).map (pickO w (kpD w L cell f tv av) (clsOut w L cell f tv av))
theorem shift_list (l : List Nat) (n b : Nat) (hl : l.length = n) (h : ∀ a ∈ l, b ≤ a) : l = (List.range n).map fun i => (l.getD i 0 - b) + b := by
  apply List.ext_getElem
  · simp [hl]
  · intro i h1 h2
    have := h _ (List.getElem_mem h1)
    simp only [List.getElem_map, List.getElem_range]
    rw [List.getD_eq_getElem?_getD, List.getElem?_eq_getElem h1]
    simp only [Option.getD_some]
    omega
theorem news2_eq (w : World) (L cell f : Addr) (tv av : List Nat) (hL : 111 ≤ L) (hc : 111 ≤ cell) (h1 : tv.length = 76) (h2 : av.length = 59) (h3 : ∀ a ∈ tv, 1 ≤ a) (h4 : ∀ a ∈ av, 111 ≤ a) : clsNews w L cell f tv av = clsNews2 w L cell f tv av := by
  have e : kObs w L cell f tv av = (kpD w L cell f tv av).os w := by
    have z := kObs_eq w f (fun i => av.getD i 0 - 111) (fun i => tv.getD i 0 - 1) (L - 111) (cell - 111)
    rw [← shift_list tv 76 1 h1 h3, ← shift_list av 59 111 h2 h4, Nat.sub_add_cancel hL, Nat.sub_add_cancel hc] at z
    exact z
  simp only [kObs, KP.os, List.cons.injEq, and_true] at e
  obtain ⟨q0, q1, q2, q3, q4, q5, q6, _, q8, q9⟩ := e
  unfold clsNews clsNews2
  refine List.map_congr_left fun i _ => ?_
  unfold pickO
  split
  · exact q0
  · exact q1
  · exact q2
  · exact q3
  · exact q4
  · exact q5
  · exact q6
  · exact q8
  · exact q9
  · rfl
noncomputable def hkCtk2 (w : World) (f : Addr) : Hk :=
  { hkCtk w f with news := fun tv av => frK w (av.getD 59 0) (tv.getD 76 0) :: { cls := .type "cell", data := .cell (some (.ref f)) } :: clsNews2 w (av.getD 0 0) (av.getD 1 0) f (tv.take 76) (av.drop 2) }
theorem ctk2_spec (w : World) (f : Addr) : SpecC pr w (ktA w) 111 1 570 5700 (.call (.ref 21) ⟨[.ref f], []⟩) [16] [tabA w] (hkCtk2 w f) := by
  intro A h g d t os h1 h2 h3 hT hn ht hg hl he hnd hf
  refine codeAny_mono (ctk_spec w f A h g d t os h1 h2 h3 hT hn ht hg hl (fun _ h => (nomatch h)) hnd hf) fun r s' x => ?_
  obtain ⟨h', t', tv, av, rfl, a1, a2, a3, a4, rfl, a5⟩ := x
  refine ⟨h', t', tv, av, rfl, a1, a2, a3, a4, rfl, ?_⟩
  have a2' : tv.length = 77 := a2
  have a3' : av.length = 61 := a3
  have ge : ∀ a ∈ av, 111 ≤ a := fun a ha => Nat.le_trans hn (a5.ge a ha)
  have gd : ∀ i, i < 61 → 111 ≤ av.getD i 0 := fun i hi => by
    rw [List.getD_eq_getElem?_getD, List.getElem?_eq_getElem (by omega)]
    exact ge _ (List.getElem_mem _)
  have e := news2_eq w (av.getD 0 0) (av.getD 1 0) f (tv.take 76) (av.drop 2) (gd 0 (by decide)) (gd 1 (by decide)) (by rw [List.length_take, a2']; rfl) (by rw [List.length_drop, a3']) (fun a ha => a4 a (List.mem_of_mem_take ha)) (fun a ha => ge a (List.mem_of_mem_drop ha))
  have e2 : (hkCtk2 w f).news tv av = (hkCtk w f).news tv av := by
    show frK w _ _ :: _ :: clsNews2 w _ _ f _ _ = frK w _ _ :: _ :: clsNews w _ _ f _ _
    rw [e]
  rw [e2]
  exact a5
noncomputable def ctkG (w : World) (c : Code) : GH :=
  { needs := [16], code := fun _ => .call (.ref 21) ⟨[.ref (refA (pA (cA c) 0))], []⟩, objs := fun _ => [tabA w], hk := fun _ => hkCtk2 w (refA (pA (cA c) 0)) }
noncomputable def ctkHook2 (w : World) : Code → Option Hr := cHook (callAt 21 isRef) (ctkG w)
theorem ctk_hook2 (w : World) : HookS pr w (ktA w) 111 1 570 5700 (ctkHook2 w) := cHook_n 1 (fun _ _ => rfl) fun c _ _ => ctk2_spec w _
end Mine
end
section
open PySem PySem.W PyProof.Rows PySem.W.X Mine
set_option Elab.async false
set_option maxRecDepth 100000
set_option maxHeartbeats 4000000
set_option linter.unusedVariables false
namespace Mine
noncomputable def hkTake (vs : List Value) (k : Nat) : Hk := { nt := 0, nn := 1, res := fun _ av => .ok (.ret (.ref (av.getD 0 0))), news := fun _ _ => [liS (vs.take k) 0], upd := fun _ _ => [] }
noncomputable abbrev sliO (k t : Nat) : Obj := { cls := .type "slice", data := .fields #[.none, .int (.ofNat k) t, .none] }
theorem take_spec (w : World) (l sl : Addr) (vs : List Value) (e k tk : Nat) (hl9 : vs.length ≤ 1000) :
    SpecC pr w (ktA w) 111 1 800 8000 (.builtin "list.__getitem__" ⟨[.ref l, .ref sl], []⟩) [l, sl] [liS vs e, sliO k tk] (hkTake vs k) := by
  intro A h g d t os h1 h2 h3 hT hn ht hg hl he hnd hfar
  have gl : h.get? l = some (liS vs e) := hg 0 l _ rfl rfl
  have gs : h.get? sl = some (sliO k tk) := hg 1 sl _ rfl rfl
  have hTs : (Shared.mk h g d t os).TypeIs (.ref sl) "slice" := ⟨_, gs, rfl⟩
  refine codeAny_builtin PySem.entry_list_getitem ?_
  rw [Around.under_plainId (by decide +kernel) _]
  show wpAny _ _ (Builtin.List.listSubscript? (.ref sl) >>= _) _ _ _
  refine wpAny_bind ?_
  unfold Builtin.List.listSubscript?
  refine wpAny_bind (wpAny_specialOf hTs slice_no_index ?_)
  simp only [Option.isNone_none, if_true]
  refine wpAny_pure ?_
  show wpAny _ _ (typeOf (.ref sl) >>= _) _ _ _
  refine wpAny_bind (wpAny_typeOf hTs ?_)
  rw [if_neg (by decide)]
  rw [listSliceParts_eq]
  refine wpAny_bind (wpAny_bind (wpAny_field gs rfl (x := .none) rfl (wpAny_bind (wpAny_listPart .none ?_))))
  rw [if_neg (show ¬ ((rawPart none == rawInt 0) = true) from Bool.false_ne_true)]
  refine wpAny_bind (wpAny_field gs rfl (x := .none) rfl (wpAny_bind (wpAny_listPart .none ?_)))
  refine wpAny_bind (wpAny_field gs rfl (x := .int (.ofNat k) tk) rfl (wpAny_bind (wpAny_listPart (.int (.ofNat k) tk) (wpAny_pure ?_))))
  refine wpAny_bind (m := Builtin.List.listItems (.ref l)) ?_
  unfold Builtin.List.listItems
  refine wpAny_bind (wpAny_seqItems gl rfl (wpAny_pure ?_))
  refine wpAny_bind (wpAny_of_eq (sliceIndices_raw none (some (.ofNat k)) none vs.length (by simp)) ?_)
  have e1 : slicePick ⟨vs⟩ none (some (.ofNat k)) none = ⟨vs.take k⟩ := slicePick_upto' ⟨vs⟩ k
  refine wpAny_bind (wpAny_newObj_type ?_ (Nat.le_trans (slicePick_size_le ⟨vs⟩ none (some (.ofNat k)) none) (Nat.le_trans hl9 (by decide))))
  have e2 : (List.filterMap (fun x => (⟨vs⟩ : Array Value)[x]?) (sliceRange (sliceBounds none (some (.ofNat k)) none vs.length).1 (sliceBounds none (some (.ofNat k)) none vs.length).2.1 (sliceBounds none (some (.ofNat k)) none vs.length).2.2)).toArray = ⟨vs.take k⟩ := e1
  rw [e2]
  refine wpAny_pure ⟨_, t, [], [h.objs.size], rfl, ht, rfl, rfl, fun x hx => (nomatch hx), rfl, ?_⟩
  refine ⟨by rw [Heap.size_push]; exact Nat.le_succ _, fun b o eb _ => Heap.get?_push_of_some _ eb, fun i a x _ e => by simp [hkTake] at e, fun i a o e1 e2 => ?_, by simp, fun x hx => ?_⟩
  · match i with
    | 0 =>
      simp [hkTake] at e1 e2
      subst e1 e2
      exact ⟨Nat.le_refl _, by rw [Heap.size_push]; exact Nat.lt_succ_self _, Heap.get?_push_size _ rfl⟩
    | i + 1 => simp at e1
  · cases List.mem_singleton.mp hx
    exact Nat.le_refl _
noncomputable def sliK (o : Obj) : Nat := (pI (fiAt o 1)).1.toNat
noncomputable def sliT (o : Obj) : Nat := (pI (fiAt o 1)).2
noncomputable def takeG (a : Args) : GH :=
  { needs := [refA (pA a 0), refA (pA a 1)], code := fun _ => .builtin "" ⟨[.ref (refA (pA a 0)), .ref (refA (pA a 1))], []⟩, props := fun l => [(sqAt (oAt l 0)).length ≤ 1000], objs := fun l => [liS (sqAt (oAt l 0)) (epAt (oAt l 0)), sliO (sliK (oAt l 1)) (sliT (oAt l 1))], hk := fun l => hkTake (sqAt (oAt l 0)) (sliK (oAt l 1)) }
noncomputable def takeHook : Code → Option Hr := bHook 128106587276438692081757506308484131437 (two isRef) takeG
theorem take_hook (w : World) : HookS pr w (ktA w) 111 1 800 8000 takeHook :=
  bHook_n (name := "list.__getitem__") (by decide +kernel) 2 (fun _ _ => rfl) fun a _ hp => take_spec w _ _ _ _ _ _ (hp _ (.head _))
noncomputable def hkLen (vs : List Value) : Hk := { nt := 2, nn := 0, res := fun tv _ => .ok (.ret (.int (.ofNat vs.length) (tv.getD 1 0))), news := fun _ _ => [], upd := fun _ _ => [] }
theorem len_spec (w : World) (l : Addr) (vs : List Value) (e : Nat) (hl9 : vs.length ≤ 1000) :
    SpecC pr w (ktA w) 111 1 800 8000 (.builtin "len" ⟨[.ref l], []⟩) [l] [liS vs e] (hkLen vs) := by
  intro A h g d t os h1 h2 h3 hT hn ht hg hl he hnd hfar
  have gl : h.get? l = some (liS vs e) := hg 0 l _ rfl rfl
  refine codeAny_builtin PySem.entry_len ?_
  rw [Around.under_plainId PySem.plain_len _]
  refine wpAny_mono (wpAny_len_body_list (items := ⟨vs⟩) (Q := fun r s' => r = .int (.ofNat vs.length) (t + 1) ∧ s' = ⟨h, g, d, t + 1 + 1, os⟩) ⟨_, gl, rfl, _, rfl⟩ (by show ((vs.length : Nat) : Int) < 2 ^ 63; omega) ⟨rfl, rfl⟩) (fun fin s' q => ?_) fun _ _ q => q
  obtain ⟨r, rfl, rfl, rfl⟩ := q
  exact ⟨h, t + 1 + 1, [t, t + 1], [], rfl, by omega, rfl, rfl, fun x hx => by simp at hx; omega, rfl, Nat.le_refl _, fun b o e _ => e, fun i a x e _ => by simp [hkLen] at *, fun i a o e => by simp at e, List.nodup_nil, fun x hx => (nomatch hx)⟩
noncomputable def lenG (a : Args) : GH :=
  { needs := [refA (pA a 0)], code := fun _ => .builtin "" ⟨[.ref (refA (pA a 0))], []⟩, props := fun l => [(sqAt (oAt l 0)).length ≤ 1000], objs := fun l => [liS (sqAt (oAt l 0)) (epAt (oAt l 0))], hk := fun l => hkLen (sqAt (oAt l 0)) }
noncomputable def lenHook : Code → Option Hr := bHook 7300717 (len1 isRef) lenG
theorem len_hook (w : World) : HookS pr w (ktA w) 111 1 800 8000 lenHook :=
  bHook_n (name := "len") (by decide +kernel) 1 (fun _ _ => rfl) fun a _ hp => len_spec w _ _ _ (hp _ (.head _))
end Mine
end
section
open PySem PySem.W PyProof.Rows PySem.W.X Mine
set_option Elab.async false
set_option maxRecDepth 100000
set_option maxHeartbeats 0
set_option linter.unusedVariables false
namespace Mine
noncomputable def lwE (w : World) (L ci cm ch cc : Addr) : Env :=
  { scope := (lwFd w).scope, locals := L, globals := (lwFd w).globals, cells := [("i", ci), ("middle", cm), ("half", ch), ("counts", cc)], qual := (lwFd w).qualname ++ ".<locals>.", func := some 110, code := (lwFd w).code, frame := some L, builtins := (lwFd w).builtins }
noncomputable abbrev lwF0 (w : World) (sc : Addr) (k0 : Nat) : Obj := { cls := .type "frame", data := .dict #[rEnt w "script" k0 (.ref sc)] 1 }
noncomputable abbrev celN : Obj := { cls := .type "cell", data := .cell none }
theorem lw_start (w : World) (sc : Addr) (vs : List Value) (e : Nat) {R : Result → Shared → Prop} {h : Heap} {g : Array GenState} {d : Drawn} {t : Nat} {os : OsState} (hT : TopOf (ktA w) h) (hn : 111 ≤ h.objs.size) (ht : 1 ≤ t)
    (L0 : Lg [sc, 16] h h [(sc, liS vs e), (16, tabA w)]) (hx : ∀ a ∈ [sc, 16], (ktA w).get a = none)
    (hq : ∀ h' t' k0 L ci cm ch cc, Lg [sc, 16] h h' [(sc, liS vs e), (16, tabA w), (L, lwF0 w sc k0), (cc, celN), (ch, celN), (cm, celN), (ci, celN)] → TopOf (ktA w) h' → 1 ≤ t' → 1 ≤ k0 →
      wpAny (model pr w) (An 410 4100) (execs (lwBody w) (lwE w L ci cm ch cc)) (fun f s' => R (.ok (.ret (match f with | .ret v => v | _ => .none))) s') NoE ⟨h', g, d, t', os⟩) :
    codeAny (model pr w) (An 400 4000) (.call (.ref 110) ⟨[.ref sc], []⟩) R ⟨h, g, d, t, os⟩ := by
  refine codeAny_of_tree ?_
  refine wp_An (d := 405) (u := 4050) rfl (Nat.le_of_ble_eq_true (by kernel_rfl)) (Nat.le_of_ble_eq_true (by kernel_rfl)) ?_
  suffices key : wpAny (model pr w) (An 405 4050) (callZ 110 ⟨[.ref sc], []⟩) _ _ _ from fun Γ p hΓ => callZ_sound hΓ (by decide) (key Γ p hΓ)
  refine led_g0 encI 1000 [0, 0, 5, 5, 0] [2, 3, 4, 5, 6] [0] (fun _ av => .again (.func (lwBody w) (lwE w (av.getD 0 0) (av.getD 4 0) (av.getD 3 0) (av.getD 2 0) (av.getD 1 0)))) (fun _ _ => [liS vs e, tabA w]) (fun tv _ => [lwF0 w sc (tv.getD 0 0), celN, celN, celN, celN]) L0 hT hn (ktA_bound w) hx ht encI_inj rfl (fun _ _ => rfl) (fun _ _ => rfl) (by decide) rfl (orc8 (by kernel_rfl)) fun h1 t1 tv av htv hav D1 hT1 ht1 hge => ?_
  obtain ⟨L, cc, ch, cm, ci, rfl⟩ : ∃ a b c d e, av = [a, b, c, d, e] := by
    match av, hav with
    | [a, b, c, d, e], _ => exact ⟨a, b, c, d, e, rfl⟩
  obtain ⟨k0, rfl⟩ : ∃ k, tv = [k] := List.length_eq_one_iff.mp htv
  refine ⟨rfl, ?_⟩
  refine codeAny_func ?_
  refine wp_An (d := 410) (u := 4100) rfl (Nat.le_of_ble_eq_true (by kernel_rfl)) (Nat.le_of_ble_eq_true (by kernel_rfl)) ?_
  have z := hq h1 t1 k0 L ci cm ch cc D1 hT1 ht1 (hge k0 (.head _))
  refine wpAny_mono (wpNo z) (fun f s' q => ?_) fun _ _ q => q
  exact q
end Mine
end
section
open PySem PySem.W PyProof.Rows PySem.W.X Mine
set_option Elab.async false
set_option maxRecDepth 100000
set_option maxHeartbeats 0
set_option linter.unusedVariables false
namespace Mine
noncomputable def SRes.orc (find : Addr → Nat) : SRes → List Nat
  | .same _ _ x => x.orc find
  | .need a k => match find a with
    | 0 => 0 :: (k 0).orc find
    | x + 1 => (x + 1) :: (k (x + 1)).orc find
  | .done .. => []
  | .fail .. => []
noncomputable def findL (n₀ : Nat) : List Addr → Nat → Addr → Nat
  | [], _, a => cond (Nat.ble n₀ a) (2 * (a - n₀) + 1) 0
  | b :: l, i, a => cond (Nat.beq a b) (2 * i + 1) (findL n₀ l (i + 1) a)
end Mine
end
section
open PySem PySem.W PyProof.Rows PySem.W.X Mine
set_option Elab.async false
set_option maxRecDepth 100000
set_option maxHeartbeats 4000000
set_option linter.unusedVariables false
namespace Mine
theorem Lg.pick {xs : List Addr} {h₀ h : Heap} {l : List (Addr × Obj)} (D : Lg xs h₀ h l) (is : List Nat) (hn : is.Nodup) (hb : ∀ i ∈ is, i < l.length) : Lg xs h₀ h (is.map fun i => l.getD i default) := by
  refine D.sub (fun p hp => ?_) ?_
  · obtain ⟨i, hi, rfl⟩ := List.mem_map.mp hp
    have := hb i hi
    rw [List.getD_eq_getElem?_getD, List.getElem?_eq_getElem this]
    exact List.getElem_mem this
  · unfold keysOf
    rw [List.map_map]
    refine List.pairwise_map.mpr (hn.imp_of_mem fun {a b} ha hb' hab => fun e => hab ?_)
    have la := hb a ha
    have lb := hb b hb'
    simp only [Function.comp, List.getD_eq_getElem?_getD, List.getElem?_eq_getElem la, List.getElem?_eq_getElem lb, Option.getD_some] at e
    have hnd := D.nd
    unfold keysOf at hnd
    have l1 : a < (l.map (·.1)).length := by simpa using la
    exact (List.getElem?_inj l1 hnd).mp (by rw [List.getElem?_map, List.getElem?_map, List.getElem?_eq_getElem la, List.getElem?_eq_getElem lb]; simp [e] : (l.map (·.1))[a]? = (l.map (·.1))[b]?)
theorem Lg.pickK {xs : List Addr} {h₀ h : Heap} {l l' : List (Addr × Obj)} (D : Lg xs h₀ h l) (is : List Nat) (hn : is.Nodup) (hb : (is.all fun i => Nat.blt i l.length) = true) (e : (is.map fun i => l.getD i default) = l') : Lg xs h₀ h l' :=
  e ▸ D.pick is hn fun i hi => Nat.le_of_ble_eq_true (List.all_eq_true.mp hb i hi)
theorem Lg.base {xs : List Addr} {h₀ h : Heap} {sub rest : List (Addr × Obj)} (D : Lg xs h₀ h (sub ++ rest)) : Lg (keysOf sub) h h sub := by
  have nd := D.nd
  unfold keysOf at nd
  rw [List.map_append] at nd
  refine ⟨Nat.le_refl _, fun _ _ e _ => e, fun p hp => D.get p (List.mem_append.mpr (.inl hp)), (List.nodup_append.mp nd).1, fun p hp => .inl (List.mem_map_of_mem (f := (·.1)) hp)⟩
theorem Lg.frame {xs : List Addr} {h₀ h h' : Heap} {sub rest l2 : List (Addr × Obj)} (D : Lg xs h₀ h (sub ++ rest)) (D2 : Lg (keysOf sub) h h' l2) : Lg xs h₀ h' (l2 ++ rest) := by
  have nd := D.nd
  unfold keysOf at nd
  rw [List.map_append] at nd
  have nr := List.nodup_append.mp nd
  have N := D.next D2 (l' := rest) (fun a ha => by unfold keysOf at ha ⊢; rw [List.map_append]; exact List.mem_append.mpr (.inl ha)) (fun p hp => ⟨List.mem_append.mpr (.inr hp), fun hm => nr.2.2 p.1 hm p.1 (List.mem_map_of_mem (f := (·.1)) hp) rfl⟩) nr.2.1
  refine ⟨N.size, N.keep, fun p hp => ?_, ?_, fun p hp => ?_⟩
  · rcases List.mem_append.mp hp with hp | hp
    · exact D2.get p hp
    · exact N.get p hp
  · have n2 := D2.nd
    unfold keysOf at n2 ⊢
    rw [List.map_append]
    refine List.nodup_append.mpr ⟨n2, nr.2.1, fun a ha b hb e => ?_⟩
    subst e
    obtain ⟨p, hp, rfl⟩ := List.mem_map.mp ha
    obtain ⟨q, hq, e⟩ := List.mem_map.mp hb
    rcases D2.ge p hp with z | z
    · exact nr.2.2 p.1 z p.1 hb rfl
    · have := Heap.lt_size (D.get q (List.mem_append.mpr (.inr hq)))
      rw [e] at this
      exact Nat.lt_irrefl _ (Nat.lt_of_lt_of_le this z)
  · rcases List.mem_append.mp hp with hp | hp
    · rcases D2.ge p hp with z | z
      · obtain ⟨q, hq, e⟩ := List.mem_map.mp z
        rw [← e]
        exact D.ge q (List.mem_append.mpr (.inl hq))
      · exact .inr (Nat.le_trans D.size z)
    · exact N.ge p hp
theorem Lg.out {xs : List Addr} {h₀ h : Heap} {l : List (Addr × Obj)} {kt : KT} {n₀ : Nat} (D : Lg xs h₀ h l) (hb : ktBound kt ≤ n₀) (hn : n₀ ≤ h₀.objs.size) (hx : ∀ a ∈ xs, kt.get a = none) : ∀ a ∈ keysOf l, kt.get a = none := fun a ha => by
  obtain ⟨p, hp, rfl⟩ := List.mem_map.mp ha
  rcases D.ge p hp with z | z
  · exact hx _ z
  · exact ktBound_none hb (Nat.le_trans hn z)
theorem wp_app {M : Model} {Γ : Ctx} {E : Value → Pos → Shared → Prop} {env : Env} {Q : Flow → Pos → Shared → Prop} {b : List Stmt} : ∀ {a : List Stmt} {p : Pos} {s : Shared}, Sem.wp M Γ (execs a env) (fun f p' s' => match f with | .next => Sem.wp M Γ (execs b env) Q E p' s' | f => Q f p' s') E p s → Sem.wp M Γ (execs (a ++ b) env) Q E p s
  | [], p, s, h => h
  | x :: a, p, s, h => by
    rw [List.cons_append]
    rw [execs_cons, Sem.wp_bind'] at h ⊢
    refine Sem.wp_mono M Γ _ (fun f p' s' x => ?_) (fun _ _ _ x => x) p s h
    cases f with
    | next => exact wp_app x
    | _ => exact x
theorem execs_append {M : Model} {A : Around} {E : Value → Shared → Prop} {env : Env} {Q : Flow → Shared → Prop} {a b : List Stmt} {s : Shared} (h : wpAny M A (execs a env) (fun f s' => match f with | .next => wpAny M A (execs b env) Q E s' | f => Q f s') E s) : wpAny M A (execs (a ++ b) env) Q E s := by
  intro Γ p hΓ
  refine wp_app (Sem.wp_mono M Γ _ (fun f p' s' x => ?_) (fun _ _ _ x => x) p s (h Γ p hΓ))
  cases f with
  | next => exact x Γ p' hΓ
  | _ => exact x
end Mine
end
section
open PySem PySem.W PyProof.Rows PySem.W.X Mine
set_option Elab.async false
set_option maxRecDepth 100000
set_option maxHeartbeats 0
set_option linter.unusedVariables false
namespace Mine
theorem loop_turn {c : Code} {d u : Nat} {w : World} {R : Result → Shared → Prop} {s : Shared} (hu : (An d u).under c = An d u)
    (h : wpAny (model pr w) (An d u) (DZ c) (fun fin s' => match fin with | .done f => R (.ok f) s' | .again c' => c'.quiet = true ∧ codeAny (model pr w) (An d u) c' R s') NoE s) : codeAny (model pr w) (An d u) c R s := by
  refine codeAny_of_tree ?_
  rw [hu]
  rw [DZ_eq] at h
  exact wpNo h
noncomputable def orcG (w : World) {α : Type} (tree : Sem α) (enc : α → PySem.Fin) (hook : Code → Option Hr) (l : List (Addr × Obj)) (dd uu dm um : Nat) (g : Array GenState) (d : Drawn) (os : OsState) (b1 b2 b3 : Bool) : List Nat :=
  (simS (mkV pr w b1 b2 b3 111 1 (ktA w) l dd uu dm um default g d os hook (fun _ _ => True) NoE) id id (fun _ => (fun _ => default, [])) 20000 default .any (PySem.W.R.bindR tree fun a => .pure (enc a)) (treeOf l) l.length 0).orc (findL 111 (keysOf l) 0)
noncomputable def callArgI (e : PySem.Expr) (i : Nat) : PySem.Expr := match e with
  | .Call _ l _ _ => l.getD i default
  | _ => default
noncomputable def cE (w : World) : PySem.Expr := callArgI (callArgI (callArgI (valOf ((lwBody w).getD 2 default)) 1) 0) 0
noncomputable def fE (L Lc : Addr) : Env :=
  { scope := { kind := .function, names := [(".0", .local), ("sign", .local)], isGenerator := false, isCoroutine := false }, locals := Lc, globals := 3, cells := [], qual := "law.<locals>.", func := none, code := .ref 109, frame := some L, builtins := 0 }
noncomputable def ccF (w : World) (L Lc it acc : Addr) : Code := .compLoop (cE w) 0 (.ref it) (.ref acc) (fE L Lc)
noncomputable def fO0 : Obj := { cls := .type "dict", data := .dict #[] 0 }
noncomputable def fO1 (w : World) (k c t : Nat) : Obj := { cls := .type "dict", data := .dict #[rEnt w "sign" k (.str ⟨#[c]⟩ t)] 1 }
noncomputable def fHook (w : World) (c : Nat) (β : Bool) : Code → Option Hr := orHook (snextHook c) (orHook (conHook β) lappHook)
theorem f_hook (w : World) (c : Nat) (β : Bool) : HookS pr w (ktA w) 111 1 800 8000 (fHook w c β) := (snext_hook w c).or ((con_hook w β).or (lapp_hook w))
end Mine
end
section
open PySem PySem.W PyProof.Rows PySem.W.X Mine
set_option Elab.async false
set_option maxRecDepth 100000
set_option maxHeartbeats 0
set_option linter.unusedVariables false
namespace Mine
noncomputable abbrev tupO' (vs : List Value) : Obj := { cls := .type "tuple", data := .seq ⟨vs⟩ }
noncomputable abbrev stopO (a : Addr) : Obj := { cls := .type "StopIteration", data := .fields #[.ref a, .none, .none, .none, .bool false, .none] }
end Mine
end
section
open PySem PySem.W PyProof.Rows PySem.W.X Mine
set_option Elab.async false
set_option maxRecDepth 100000
set_option maxHeartbeats 0
set_option linter.unusedVariables false
namespace Mine
noncomputable abbrev siE (i : Nat) : Obj := { cls := .type "str_ascii_iterator", data := .fields #[.none, .int (.ofNat i) 0] }
noncomputable def hkStop (upd : List Obj) : Hk := { nt := 0, nn := 2, res := fun _ av => .error (.ref (av.getD 1 0)), news := fun _ av => [tupO' [], stopO (av.getD 0 0)], upd := fun _ _ => upd }
theorem after_stop {h h' : Heap} {needs : List Addr} {upd : List Obj} (sz : h'.objs.size = h.objs.size) (hk : ∀ b o, h.get? b = some o → b ∉ needs.take upd.length → h'.get? b = some o) (hu : ∀ (i : Nat) a x, needs[i]? = some a → upd[i]? = some x → h'.get? a = some x) :
    After h ((h'.push (tupO' [])).push (stopO h'.objs.size)) needs upd [tupO' [], stopO h'.objs.size] [h'.objs.size, (h'.push (tupO' [])).objs.size] := by
  have n1 : (h'.push (tupO' [])).objs.size = h'.objs.size + 1 := Heap.size_push ..
  have n2 : ((h'.push (tupO' [])).push (stopO h'.objs.size)).objs.size = h'.objs.size + 2 := (Heap.size_push ..).trans (by rw [n1])
  refine ⟨by rw [n2]; omega, fun b o q hb => Heap.get?_push_of_some _ (Heap.get?_push_of_some _ (hk b o q hb)), fun i a x q1 q2 => Heap.get?_push_of_some _ (Heap.get?_push_of_some _ (hu i a x q1 q2)), fun i a o q1 q2 => ?_, by rw [n1]; simp, fun x hx => ?_⟩
  · match i with
    | 0 =>
      simp at q1 q2
      subst q1 q2
      exact ⟨by omega, by rw [n2]; omega, Heap.get?_push_of_some _ (Heap.get?_push_size _ rfl)⟩
    | 1 =>
      simp at q1 q2
      subst q1 q2
      exact ⟨by omega, by rw [n2]; omega, by rw [← n1]; exact Heap.get?_push_size _ rfl⟩
    | i + 2 => simp at q2
  · simp only [List.mem_cons, List.not_mem_nil, or_false] at hx
    rcases hx with rfl | rfl
    · omega
    · rw [n1]; omega
theorem snextE_spec (w : World) (a : Addr) (x : Str) (t i : Nat) (hx : x.cps.toList.length ≤ i) : SpecC pr w (ktA w) 111 1 800 8000 (.builtin "str_ascii_iterator.__next__" ⟨[.ref a], []⟩) [a] [siO x t i] (hkStop [siE i]) := by
  intro A h g d tt os h1 h2 h3 hT hn ht hg _ _ _ _
  have ho : h.get? a = some (siO x t i) := hg 0 a _ rfl rfl
  show codeAny (model pr w) A _ (PostC (hkStop [siE i]) [a] h g d os) _
  refine codeAny_builtin F.entry_str_ascii_iterator_next ?_
  rw [Around.under_plainId (by decide +kernel) _]
  show wpAny _ _ (field (.ref a) 0 >>= _) _ _ _
  refine wpAny_bind (wpAny_field ho rfl (x := .str x t) rfl ?_)
  show wpAny _ _ (field (.ref a) 1 >>= _) _ _ _
  refine wpAny_bind (wpAny_field ho rfl (x := .int (.ofNat i) 0) rfl ?_)
  have hx' : x.cps[i]? = none := by rw [← Array.getElem?_toList]; exact List.getElem?_eq_none hx
  simp only [Int.ofNat_eq_natCast, Int.toNat_natCast, hx']
  refine wpAny_bind (wpAny_rule (wpAny_bind (wpAny_setField_rec ho (by simp) fun h' e' hs' => (wpAny_bind (wpAny_letGo ?_)))))
  have e2 : h'.get? a = some (siE i) := by rw [e']; simp
  show wpAny _ _ (newExc (.type "StopIteration") [] >>= _) _ _ _
  refine wpAny_bind ?_
  simp only [newExc, newTuple]
  refine wpAny_bind (wpAny_newObj_type ?_ (by size_fits))
  refine wpAny_bind (m := firstArgMember _ _) (wpAny_of_eq (a := Value.none) (by first | rfl | (simp only [firstArgMember]; rfl)) ?_)
  refine wpAny_newObj_type ?_ (by size_fits)
  simp only [raiseNew]
  refine wpAny_bind (wpAny_handled ?_)
  rw [show A.in1.handled = none from h1]
  refine wpAny_bind (wpAny_pure (wpAny_throw ?_))
  refine ⟨(h'.push (tupO' [])).push (stopO h'.objs.size), tt, [], [h'.objs.size, (h'.push (tupO' [])).objs.size], rfl, ht, rfl, rfl, fun _ hx => (nomatch hx), rfl, ?_⟩
  refine after_stop (upd := [siE i]) hs'.1 (fun b o q hb => (hs'.2 b (by simpa using hb)).trans q) fun i b x q1 q2 => ?_
  match i with
  | 0 => simp at q1 q2; subst q1 q2; exact e2
  | i + 1 => simp at q2
theorem rnextE_spec (w : World) (a : Addr) (x left : Int) (hl : left ≤ 0) : SpecC pr w (ktA w) 111 1 800 8000 (.builtin "range_iterator.__next__" ⟨[.ref a], []⟩) [a] [riO x left] (hkStop []) := by
  intro A h g d tt os h1 h2 h3 hT hn ht hg _ _ _ _
  have hit : h.get? a = some (riO x left) := hg 0 a _ rfl rfl
  show codeAny (model pr w) A _ (PostC (hkStop []) [a] h g d os) _
  refine codeAny_builtin F.entry_range_iterator_next ?_
  rw [Around.under_plainId (by decide +kernel) _]
  show wpAny _ _ (field (.ref a) 0 >>= _) _ _ _
  refine wpAny_bind (wpAny_field hit rfl (x := rawInt x) rfl ?_)
  show wpAny _ _ (field (.ref a) 1 >>= _) _ _ _
  refine wpAny_bind (wpAny_field hit rfl (x := rawInt left) rfl ?_)
  show wpAny _ _ (field (.ref a) 2 >>= _) _ _ _
  refine wpAny_bind (wpAny_field hit rfl (x := rawInt 1) rfl ?_)
  show wpAny _ _ (if left ≤ 0 then _ else _) _ _ _
  rw [if_pos hl]
  refine wpAny_bind (wpAny_rule ?_)
  refine wpAny_bind ?_
  show wpAny _ _ (newExc (.type "StopIteration") [] >>= _) _ _ _
  refine wpAny_bind ?_
  simp only [newExc, newTuple]
  refine wpAny_bind (wpAny_newObj_type ?_ (by size_fits))
  refine wpAny_bind (m := firstArgMember _ _) (wpAny_of_eq (a := Value.none) (by first | rfl | (simp only [firstArgMember]; rfl)) ?_)
  refine wpAny_newObj_type ?_ (by size_fits)
  simp only [raiseNew]
  refine wpAny_bind (wpAny_handled ?_)
  rw [show A.in1.handled = none from h1]
  refine wpAny_bind (wpAny_pure (wpAny_throw ?_))
  refine ⟨(h.push (tupO' [])).push (stopO h.objs.size), tt, [], [h.objs.size, (h.push (tupO' [])).objs.size], rfl, ht, rfl, rfl, fun _ hx => (nomatch hx), rfl, ?_⟩
  exact after_stop (upd := []) rfl (fun b o q hb => q) fun i b x q1 q2 => by simp at q2
noncomputable def snextEG (a : Args) : GH := { needs := [refA (pA a 0)], code := fun _ => .builtin "" ⟨[.ref (refA (pA a 0))], []⟩, props := fun l => [(siX (oAt l 0)).cps.toList.length ≤ siI (oAt l 0)], objs := fun l => [siO (siX (oAt l 0)) (siT (oAt l 0)) (siI (oAt l 0))], hk := fun l => hkStop [siE (siI (oAt l 0))] }
noncomputable def snextEHook : Code → Option Hr := bHook 39647112825583545393006412691359451730623858335503063133055055220 (len1 isRef) snextEG
theorem snextE_hook (w : World) : HookS pr w (ktA w) 111 1 800 8000 snextEHook :=
  bHook_n (name := "str_ascii_iterator.__next__") (by decide +kernel) 1 (fun _ _ => rfl) fun a f hp => snextE_spec w _ _ _ _ (hp _ (.head _))
noncomputable def rnextEG (a : Args) : GH := { needs := [refA (pA a 0)], code := fun _ => .builtin "" ⟨[.ref (refA (pA a 0))], []⟩, props := fun l => [intOf (fiAt (oAt l 0) 1) ≤ 0], objs := fun l => [riO (intOf (fiAt (oAt l 0) 0)) (intOf (fiAt (oAt l 0) 1))], hk := fun l => hkStop [] }
noncomputable def rnextEHook : Code → Option Hr := bHook 9231062798198206674541908477283886571094360729114862195 (len1 isRef) rnextEG
theorem rnextE_hook (w : World) : HookS pr w (ktA w) 111 1 800 8000 rnextEHook :=
  bHook_n (name := "range_iterator.__next__") (by decide +kernel) 1 (fun _ _ => rfl) fun a f hp => rnextE_spec w _ _ _ (hp _ (.head _))
end Mine
end
section
open PySem PySem.W PyProof.Rows PySem.W.X Mine
set_option Elab.async false
set_option maxRecDepth 100000
set_option maxHeartbeats 0
set_option linter.unusedVariables false
namespace Mine
noncomputable abbrev rwx : List Nat := [114, 119, 120]
noncomputable def fO (w : World) : Option (Nat × Nat × Nat) → Obj
  | none => fO0
  | some (k, c, t) => fO1 w k c t
noncomputable def lgF (w : World) (it acc Lc : Addr) (x : Str) (tx i : Nat) (A : List Value) (ep : Nat) (o : Option (Nat × Nat × Nat)) : List (Addr × Obj) := [(it, siO x tx i), (acc, liS A ep), (Lc, fO w o)]
noncomputable def accF (β : Bool) (A : List Value) (c t : Nat) : List Value := match β with
  | true => A ++ [.str ⟨#[c]⟩ t]
  | false => A
noncomputable def epF (β : Bool) (ep : Nat) : Nat := match β with
  | true => ep + 1
  | false => ep
noncomputable def factsF (β : Bool) (x : Str) (i c : Nat) (A : List Value) : List Prop := match β with
  | true => [A.length ≤ 1000, decide (c ∈ rwx) = true, x.cps.toList[i]? = some c]
  | false => [decide (c ∈ rwx) = false, x.cps.toList[i]? = some c]
noncomputable def orcF (w : World) (β : Bool) (x : Str) (tx i c : Nat) (A : List Value) (ep : Nat) (o : Option (Nat × Nat × Nat)) (g : Array GenState) (d : Drawn) (os : OsState) (b1 b2 b3 : Bool) : List Nat :=
  orcG w (DZ (ccF w 1000004 1000003 1000001 1000002)) encI (fHook w c β) (lgF w 1000001 1000002 1000003 x tx i A ep o) 440 4400 800 8000 g d os b1 b2 b3
section
variable {w : World} {L it acc Lc : Addr} {x : Str} {tx i ep : Nat} {A : List Value} {xs : List Addr} {h₀ h : Heap} {g : Array GenState} {d : Drawn} {os : OsState} {t : Nat} {R : Result → Shared → Prop}
noncomputable def rnF (w : World) (β : Bool) (L it acc Lc : Addr) (x : Str) (tx i c : Nat) (A : List Value) (ep : Nat) (o : Option (Nat × Nat × Nat)) (h : Heap) (g : Array GenState) (d : Drawn) (os : OsState) : RanT := ranT pr w 111 1 (ktA w) (lgF w it acc Lc x tx i A ep o) 440 4400 800 8000 h g d os (fHook w c β) NoE encI (DZ (ccF w L Lc it acc)) 20000 (orcF w β x tx i c A ep o g d os)
noncomputable def obF (w : World) (β : Bool) (it acc Lc : Addr) (x : Str) (tx i c : Nat) (A : List Value) (ep : Nat) (kk : (Nat → Nat) → Nat) (ad tk : Nat → Nat) : List Obj := [siO x tx (i + 1), liS (accF β A c (tk 0)) (epF β ep), fO w (some (kk tk, c, tk 0))]
noncomputable def ChkF (w : World) (β : Bool) (L it acc Lc : Addr) (x : Str) (tx i c : Nat) (A : List Value) (ep : Nat) (o : Option (Nat × Nat × Nat)) (kk : (Nat → Nat) → Nat) (h : Heap) (g : Array GenState) (d : Drawn) (os : OsState) : Prop := ∀ b1 b2 b3, tellG1 (rnF w β L it acc Lc x tx i c A ep o h g d os) [0, 1, 2] b1 b2 b3 = tellG2 (rnF w β L it acc Lc x tx i c A ep o h g d os) 111 1 encI (fun _ _ => factsF β x i c A) (fun _ _ => .again (ccF w L Lc it acc)) (obF w β it acc Lc x tx i c A ep kk) b1 b2 b3
theorem cf0 (c : Nat) : ChkF w false L it acc Lc x tx i c A ep none (fun tk => tk 1) h g d os := orc13 (by kernel_rfl)
theorem cf1 (c : Nat) : ChkF w true L it acc Lc x tx i c A ep none (fun tk => tk 1) h g d os := orc13 (by kernel_rfl)
theorem cf2 (c k b tb : Nat) : ChkF w false L it acc Lc x tx i c A ep (some (k, b, tb)) (fun tk => k) h g d os := orc13 (by kernel_rfl)
theorem cf3 (c k b tb : Nat) : ChkF w true L it acc Lc x tx i c A ep (some (k, b, tb)) (fun tk => k) h g d os := orc13 (by kernel_rfl)
end
end Mine
end
section
open PySem PySem.W PyProof.Rows PySem.W.X Mine
set_option Elab.async false
set_option maxRecDepth 100000
set_option maxHeartbeats 0
set_option linter.unusedVariables false
namespace Mine
theorem allN : ∀ P ∈ ([] : List Prop), P := fun _ h => nomatch h
theorem allC {P : Prop} {l : List Prop} (h : P) (t : ∀ x ∈ l, x) : ∀ x ∈ P :: l, x := fun x hx => by
  rcases List.mem_cons.mp hx with rfl | hx
  · exact h
  · exact t x hx
theorem geN : ∀ a ∈ ([] : List Nat), 1 ≤ a := fun _ h => nomatch h
theorem geC {x : Nat} {l : List Nat} (h : 1 ≤ x) (t : ∀ a ∈ l, 1 ≤ a) : ∀ a ∈ x :: l, 1 ≤ a := fun a ha => by
  rcases List.mem_cons.mp ha with rfl | ha
  · exact h
  · exact t a ha
theorem geS (k : Nat) : 1 ≤ k + 1 := Nat.le_add_left 1 k
noncomputable def dTok (B n k : Nat) : Nat := n / B ^ k % B + 1
noncomputable def decT (B n m : Nat) : List Nat := (List.range m).map (dTok B n)
theorem enc_dig (B : Nat) : ∀ l : List Nat, (∀ a ∈ l, a < B) → ∃ n, ∀ k a, l[k]? = some a → n / B ^ k % B = a
  | [], _ => ⟨0, fun k a e => by simp at e⟩
  | b :: l, h => by
    obtain ⟨n, hn⟩ := enc_dig B l fun a ha => h a (.tail _ ha)
    have hb := h b (.head _)
    refine ⟨b + B * n, fun k a e => ?_⟩
    cases k with
    | zero =>
      simp at e
      subst e
      rw [Nat.pow_zero, Nat.div_one, Nat.add_mul_mod_self_left, Nat.mod_eq_of_lt hb]
    | succ k =>
      rw [Nat.pow_succ, Nat.mul_comm (B ^ k) B, ← Nat.div_div_eq_div_mul, Nat.add_mul_div_left _ _ (Nat.lt_of_le_of_lt (Nat.zero_le b) hb), Nat.div_eq_of_lt hb, Nat.zero_add]
      exact hn k a (by simpa using e)
theorem bound_of : ∀ l : List Nat, ∃ B, ∀ a ∈ l, a < B
  | [] => ⟨0, fun _ h => nomatch h⟩
  | b :: l => by
    obtain ⟨B, hB⟩ := bound_of l
    refine ⟨B + b + 1, fun a ha => ?_⟩
    rcases List.mem_cons.mp ha with rfl | ha
    · omega
    · have := hB a ha; omega
theorem enc_toks (l : List Nat) (h1 : ∀ a ∈ l, 1 ≤ a) : ∃ B n, 1 ≤ B ∧ 1 ≤ n ∧ decT B n l.length = l := by
  obtain ⟨B, hB⟩ := bound_of (l.map (· - 1) ++ [1])
  obtain ⟨n, hn⟩ := enc_dig B (l.map (· - 1) ++ [1]) hB
  have hB1 : 1 < B := hB 1 (List.mem_append.mpr (.inr (.head _)))
  have htop := hn l.length 1 (by rw [List.getElem?_append_right (by simp)]; simp)
  refine ⟨B, n, Nat.le_of_lt hB1, ?_, ?_⟩
  · cases n with
    | zero => rw [Nat.zero_div, Nat.zero_mod] at htop; cases htop
    | succ n => exact Nat.succ_le_succ (Nat.zero_le n)
  · refine List.ext_getElem (by simp [decT]) fun i a1 a2 => ?_
    have hi : i < l.length := a2
    have e := hn i (l[i] - 1) (by rw [List.getElem?_append_left (by simpa using hi)]; simp [hi])
    have h := h1 l[i] (List.getElem_mem hi)
    simp only [decT, List.getElem_map, List.getElem_range, dTok]
    rw [e]
    omega
theorem decT_ge {B n m : Nat} : ∀ a ∈ decT B n m, 1 ≤ a := fun a ha => by
  obtain ⟨k, _, rfl⟩ := List.mem_map.mp ha
  exact Nat.succ_le_succ (Nat.zero_le _)
theorem decT_len (B n m : Nat) : (decT B n m).length = m := by simp [decT]
noncomputable def zipS (cs ts : List Nat) : List Value := strValues ((cs.zip ts).map fun p => (⟨#[p.1]⟩, p.2))
noncomputable def inR (c : Nat) : Bool := decide (c ∈ rwx)
theorem zipS_cons (c t : Nat) (cs ts : List Nat) : zipS (c :: cs) (t :: ts) = .str ⟨#[c]⟩ t :: zipS cs ts := rfl
section
variable {w : World} {L it acc Lc : Addr} {x : Str} {tx : Nat} {xs : List Addr} {h₀ : Heap} {g : Array GenState} {d : Drawn} {os : OsState} {R : Result → Shared → Prop}
theorem cf_turn {β : Bool} {i c ep : Nat} {A : List Value} {o : Option (Nat × Nat × Nat)} {kk : (Nat → Nat) → Nat} {h : Heap} {t : Nat} (H : ChkF w β L it acc Lc x tx i c A ep o kk h g d os) (hF : ∀ P ∈ factsF β x i c A, P) (hkk : ∀ tk : Nat → Nat, (∀ i, 1 ≤ tk i) → 1 ≤ kk tk)
    (D : Lg xs h₀ h (lgF w it acc Lc x tx i A ep o)) (hT : TopOf (ktA w) h) (hn : 111 ≤ h₀.objs.size) (hx : ∀ a ∈ xs, (ktA w).get a = none) (ht : 1 ≤ t)
    (hq : ∀ h' t' k tb, 1 ≤ k → 1 ≤ tb → Lg xs h₀ h' (lgF w it acc Lc x tx (i + 1) (accF β A c tb) (epF β ep) (some (k, c, tb))) → TopOf (ktA w) h' → 1 ≤ t' → codeAny (model pr w) (An 440 4400) (ccF w L Lc it acc) R ⟨h', g, d, t', os⟩) :
    codeAny (model pr w) (An 440 4400) (ccF w L Lc it acc) R ⟨h, g, d, t, os⟩ := by
  refine loop_turn rfl ?_
  refine led_goG encI 20000 (orcF w β x tx i c A ep o g d os) [0, 1, 2] (fun _ _ => factsF β x i c A) (fun _ _ => hF) (fun _ _ => .again (ccF w L Lc it acc)) (obF w β it acc Lc x tx i c A ep kk)
    D hT hn (ktA_bound w) hx ht encI_inj (f_hook w c β) (by kernel_rfl) (by decide) H fun h' t' ad tk had htk D' hT' ht' => ?_
  exact ⟨rfl, hq h' t' (kk tk) (tk 0) (hkk tk htk) (htk 0) D' hT' ht'⟩
noncomputable def orcE (w : World) (x : Str) (tx i : Nat) (A : List Value) (ep : Nat) (o : Option (Nat × Nat × Nat)) (g : Array GenState) (d : Drawn) (os : OsState) (b1 b2 b3 : Bool) : List Nat :=
  orcG w (DZ (ccF w 1000004 1000003 1000001 1000002)) encI snextEHook (lgF w 1000001 1000002 1000003 x tx i A ep o) 440 4400 800 8000 g d os b1 b2 b3
theorem cf_end {i ep : Nat} {A : List Value} {o : Option (Nat × Nat × Nat)} {h : Heap} {t : Nat} (hi : x.cps.toList.length ≤ i)
    (D : Lg xs h₀ h (lgF w it acc Lc x tx i A ep o)) (hT : TopOf (ktA w) h) (hn : 111 ≤ h₀.objs.size) (hx : ∀ a ∈ xs, (ktA w).get a = none) (ht : 1 ≤ t)
    (hq : ∀ h' t', Lg xs h₀ h' [(it, siE i), (acc, liS A ep), (Lc, fO w o)] → 1 ≤ t' → R (.ok .next) ⟨h', g, d, t', os⟩) :
    codeAny (model pr w) (An 440 4400) (ccF w L Lc it acc) R ⟨h, g, d, t, os⟩ := by
  refine loop_turn rfl ?_
  cases o with
  | none =>
    refine led_goG encI 20000 (orcE w x tx i A ep none g d os) [0, 1, 2] (fun _ _ => [x.cps.toList.length ≤ i]) (fun _ _ P hP => by cases List.mem_singleton.mp hP; exact hi) (fun _ _ => .done .next) (fun ad tk => [siE i, liS A ep, fO w none])
      D hT hn (ktA_bound w) hx ht encI_inj (snextE_hook w) (by kernel_rfl) (by decide) (orc13 (by kernel_rfl)) fun h' t' ad tk had htk D' hT' ht' => ?_
    exact hq h' t' D' ht'
  | some q =>
    refine led_goG encI 20000 (orcE w x tx i A ep (some q) g d os) [0, 1, 2] (fun _ _ => [x.cps.toList.length ≤ i]) (fun _ _ P hP => by cases List.mem_singleton.mp hP; exact hi) (fun _ _ => .done .next) (fun ad tk => [siE i, liS A ep, fO w (some q)])
      D hT hn (ktA_bound w) hx ht encI_inj (snextE_hook w) (by kernel_rfl) (by decide) (orc13 (by kernel_rfl)) fun h' t' ad tk had htk D' hT' ht' => ?_
    exact hq h' t' D' ht'
noncomputable def okO (o : Option (Nat × Nat × Nat)) (l : List Nat) : Prop := match l.getLast? with
  | none => o = none
  | some c => ∃ k t, 1 ≤ k ∧ 1 ≤ t ∧ o = some (k, c, t)
theorem cf_loop (hT0 : TopOf (ktA w) h₀) (hn : 111 ≤ h₀.objs.size) (hx : ∀ a ∈ xs, (ktA w).get a = none) (hl : x.cps.toList.length ≤ 1000) :
    ∀ (r : List Nat) (i : Nat) (A : List Value) (ep : Nat) (o : Option (Nat × Nat × Nat)) (h : Heap) (t : Nat), x.cps.toList.drop i = r → i ≤ x.cps.toList.length → A.length ≤ i → okO o (x.cps.toList.take i) → 1 ≤ t → Lg xs h₀ h (lgF w it acc Lc x tx i A ep o) →
      (∀ h' t' ts o', ts.length = (r.filter inR).length → (∀ a ∈ ts, 1 ≤ a) → okO o' x.cps.toList → Lg xs h₀ h' [(it, siE x.cps.toList.length), (acc, liS (A ++ zipS (r.filter inR) ts) (ep + (r.filter inR).length)), (Lc, fO w o')] → 1 ≤ t' → R (.ok .next) ⟨h', g, d, t', os⟩) →
      codeAny (model pr w) (An 440 4400) (ccF w L Lc it acc) R ⟨h, g, d, t, os⟩ := by
  intro r
  induction r with
  | nil =>
    intro i A ep o h t hr hi hA ho ht D hq
    have hie : i = x.cps.toList.length := Nat.le_antisymm hi (List.drop_eq_nil_iff.mp hr)
    subst hie
    refine cf_end (Nat.le_refl _) D (hT0.keeps D.keep hx) hn hx ht fun h' t' D' ht' => ?_
    rw [List.take_length] at ho
    exact hq h' t' [] o rfl (fun _ h => nomatch h) ho (by rw [show A ++ zipS ([].filter inR) [] = A from List.append_nil A]; exact D') ht'
  | cons c r ih =>
    intro i A ep o h t hr hi hA ho ht D hq
    have hlt : i < x.cps.toList.length := by
      rcases Nat.lt_or_ge i x.cps.toList.length with q | q
      · exact q
      · rw [List.drop_eq_nil_of_le q] at hr; cases hr
    have hc : x.cps.toList[i]? = some c := by
      have := congrArg (·[0]?) hr
      rw [List.getElem?_drop] at this
      simpa using this
    have hr' : x.cps.toList.drop (i + 1) = r := by
      rw [← List.drop_drop, hr]
      rfl
    have hlast : (x.cps.toList.take (i + 1)).getLast? = some c := by
      rw [List.take_add_one, hc]
      simp
    have go : ∀ β (kk : (Nat → Nat) → Nat), (∀ tk : Nat → Nat, (∀ i, 1 ≤ tk i) → 1 ≤ kk tk) → inR c = β → ChkF w β L it acc Lc x tx i c A ep o kk h g d os → codeAny (model pr w) (An 440 4400) (ccF w L Lc it acc) R ⟨h, g, d, t, os⟩ := fun β kk hkk hβ H => by
      refine cf_turn H (fun P hP => ?_) hkk D (hT0.keeps D.keep hx) hn hx ht fun h' t' k tb hk htb D' hT' ht' => ?_
      · have hz : A.length ≤ 1000 := Nat.le_trans hA (Nat.le_trans hi hl)
        cases β with
        | true => exact allC hz (allC hβ (allC hc allN)) P hP
        | false => exact allC hβ (allC hc allN) P hP
      · refine ih (i + 1) _ _ _ h' t' hr' hlt ?_ (by unfold okO; rw [hlast]; exact ⟨k, tb, hk, htb, rfl⟩) ht' D' fun h2 t2 ts o' a1 a2 a3 a4 a5 => ?_
        · cases β with
          | true => show (A ++ [_]).length ≤ i + 1; rw [List.length_append]; exact Nat.succ_le_succ hA
          | false => exact Nat.le_succ_of_le hA
        · cases β with
          | true =>
            refine hq h2 t2 (tb :: ts) o' ?_ (fun a ha => ?_) a3 ?_ a5
            · rw [List.filter_cons_of_pos hβ, List.length_cons, List.length_cons, a1]
            · rcases List.mem_cons.mp ha with rfl | ha
              · exact htb
              · exact a2 a ha
            · rw [List.filter_cons_of_pos hβ, zipS_cons, List.length_cons]
              have e1 : A ++ (Value.str ⟨#[c]⟩ tb :: zipS (r.filter inR) ts) = accF true A c tb ++ zipS (r.filter inR) ts := by
                show _ = (A ++ [_]) ++ _
                rw [List.append_assoc]
                rfl
              have e2 : ep + ((r.filter inR).length + 1) = epF true ep + (r.filter inR).length := by show _ = ep + 1 + _; omega
              rw [e1, e2]
              exact a4
          | false =>
            have hβ' : ¬ inR c = true := by rw [hβ]; exact Bool.false_ne_true
            refine hq h2 t2 ts o' ?_ a2 a3 ?_ a5
            · rw [List.filter_cons_of_neg hβ', a1]
            · rw [List.filter_cons_of_neg hβ']
              exact a4
    cases o with
    | none =>
      cases hβ : inR c with
      | true => exact go true _ (fun tk h => h 1) hβ (cf1 c)
      | false => exact go false _ (fun tk h => h 1) hβ (cf0 c)
    | some q =>
      obtain ⟨k, b, tb⟩ := q
      have hk : 1 ≤ k := by
        unfold okO at ho
        cases e : (x.cps.toList.take i).getLast? with
        | none => rw [e] at ho; cases ho
        | some c' =>
          rw [e] at ho
          obtain ⟨k', t', q1, _, q3⟩ := ho
          cases q3
          exact q1
      cases hβ : inR c with
      | true => exact go true _ (fun tk _ => hk) hβ (cf3 c k b tb)
      | false => exact go false _ (fun tk _ => hk) hβ (cf2 c k b tb)
end
end Mine
end
section
open PySem PySem.W PyProof.Rows PySem.W.X Mine
set_option Elab.async false
set_option maxRecDepth 100000
set_option maxHeartbeats 0
set_option linter.unusedVariables false
namespace Mine
theorem Lg.ofSpec {h : Heap} {needs : List Addr} {objs : List Obj} (hg : ∀ (i : Nat) a o, needs[i]? = some a → objs[i]? = some o → h.get? a = some o) (hl : objs.length = needs.length) (hnd : needs.Nodup) : Lg needs h h (needs.zip objs) := by
  have hk : keysOf (needs.zip objs) = needs := List.map_fst_zip (by rw [hl]; exact Nat.le_refl _)
  refine ⟨Nat.le_refl _, fun _ _ e _ => e, fun p hp => ?_, by rw [hk]; exact hnd, fun p hp => .inl (hk ▸ List.mem_map_of_mem (f := (·.1)) hp)⟩
  obtain ⟨i, hi⟩ := List.getElem?_of_mem hp
  rw [List.getElem?_zip_eq_some] at hi
  exact hg i _ _ hi.1 hi.2
theorem Lg.outs {xs : List Addr} {h₀ h : Heap} {l r : List (Addr × Obj)} {w : World} (D : Lg xs h₀ h (l ++ r)) (hn : 111 ≤ h₀.objs.size) (hx : ∀ a ∈ xs, (ktA w).get a = none) : ∀ a ∈ keysOf l, (ktA w).get a = none := fun a ha =>
  D.out (ktA_bound w) hn hx a (by unfold keysOf at ha ⊢; rw [List.map_append]; exact List.mem_append.mpr (.inl ha))
theorem Lg.afterU {h h' : Heap} {l hd R : List (Addr × Obj)} {xs : List Addr} (D0 : Lg xs h h (l ++ R)) (D : Lg xs h h' (hd ++ R)) (hx : xs = keysOf (hd ++ R)) : After h h' xs (hd.map (·.2)) [] [] := by
  refine ⟨D.size, fun b o e hb => ?_, fun i a x e1 e2 => ?_, fun i a o e => (by cases e), List.nodup_nil, fun x hx => (nomatch hx)⟩
  · by_cases hm : b ∈ xs
    · rw [hx] at hm hb
      unfold keysOf at hm hb
      rw [List.length_map, List.map_append, List.take_append_of_le_length (by rw [List.length_map]; exact Nat.le_refl _), List.take_of_length_le (by rw [List.length_map]; exact Nat.le_refl _)] at hb
      rw [List.map_append] at hm
      rcases List.mem_append.mp hm with hm | hm
      · exact absurd hm hb
      · obtain ⟨p, hp, rfl⟩ := List.mem_map.mp hm
        have z := D0.get p (List.mem_append.mpr (.inr hp))
        rw [e] at z
        cases z
        exact D.get p (List.mem_append.mpr (.inr hp))
    · exact D.keep b o e hm
  · rw [hx] at e1
    unfold keysOf at e1
    rw [List.getElem?_map] at e1 e2
    cases z : hd[i]? with
    | none => rw [z] at e2; cases e2
    | some p =>
      have hlt := (List.getElem?_eq_some_iff.mp z).1
      rw [List.getElem?_append_left hlt, z] at e1
      rw [z] at e2
      cases e1; cases e2
      exact D.get p (List.mem_append.mpr (.inl (List.mem_of_getElem? z)))
end Mine
end
section
open PySem PySem.W PyProof.Rows PySem.W.X Mine
set_option Elab.async false
set_option maxRecDepth 100000
set_option maxHeartbeats 0
set_option linter.unusedVariables false
namespace Mine
noncomputable def posOf (e : PySem.Expr) : Nat × Nat := match e with
  | .ListComp _ _ _ p => (p.line, p.col)
  | _ => (0, 0)
noncomputable def clP (c : Code) : Nat × Nat := match c with
  | .compLoop e _ _ _ _ => posOf e
  | _ => (0, 0)
noncomputable def clI (c : Code) : Addr := match c with
  | .compLoop _ _ i _ _ => refA i
  | _ => 0
noncomputable def clA (c : Code) : Addr := match c with
  | .compLoop _ _ _ a _ => refA a
  | _ => 0
noncomputable def clE (c : Code) : Env := match c with
  | .compLoop _ _ _ _ e => e
  | _ => default
noncomputable def clC (c : Code) (i : Nat) : Addr := ((clE c).cells.getD i (default, 0)).2
noncomputable def clL (c : Code) : Addr := (clE c).frame.getD 0
noncomputable def isCl (x y : Nat) (c : Code) : Bool := match Nat.beq (clP c).1 x with
  | true => Nat.beq (clP c).2 y
  | false => false
noncomputable def filL (x : Str) : List Nat := x.cps.toList.filter inR
noncomputable def hkF (w : World) (x : Str) : Hk :=
  { nt := 4, nn := 0, res := fun _ _ => .ok .next, news := fun _ _ => [],
    upd := fun tv _ => [siE x.cps.toList.length, liS (zipS (filL x) (decT (tv.getD 0 0) (tv.getD 1 0) (filL x).length)) (filL x).length, fO1 w (tv.getD 2 0) (x.cps.toList.getLast?.getD 0) (tv.getD 3 0)] }
theorem filt_spec (w : World) (L Lc it acc : Addr) (x : Str) (tx : Nat) (hl : x.cps.toList.length ≤ 1000) (h1 : 1 ≤ x.cps.toList.length) :
    SpecC pr w (ktA w) 111 1 440 4400 (ccF w L Lc it acc) [it, acc, Lc] [siO x tx 0, liS [] 0, fO0] (hkF w x) := by
  intro A h g d t os a1 a2 a3 hT hn ht hg hlo _ hnd hf
  show codeAny (model pr w) A _ (PostC (hkF w x) [it, acc, Lc] h g d os) _
  refine code_An (d := 440) (u := 4400) a1 a2 a3 ?_
  have L0 := Lg.ofSpec (needs := [it, acc, Lc]) (objs := [siO x tx 0, liS [] 0, fO0]) hg hlo hnd
  refine cf_loop (xs := [it, acc, Lc]) (h₀ := h) hT hn hf hl x.cps.toList 0 [] 0 none h t rfl (Nat.zero_le _) (Nat.le_refl _) rfl ht L0 fun h' t' ts o' e1 e2 e3 D ht' => ?_
  obtain ⟨B, n, hB, hn1, hdec⟩ := enc_toks ts e2
  rw [e1] at hdec
  obtain ⟨k, tb, hk, htb, rfl⟩ : ∃ k tb, 1 ≤ k ∧ 1 ≤ tb ∧ o' = some (k, x.cps.toList.getLast?.getD 0, tb) := by
    unfold okO at e3
    cases e : x.cps.toList.getLast? with
    | none =>
      rw [List.getLast?_eq_none_iff] at e
      rw [e] at h1
      exact absurd h1 (by decide)
    | some c =>
      rw [e] at e3
      exact e3
  have z := Lg.afterU (R := []) (l := [(it, siO x tx 0), (acc, liS [] 0), (Lc, fO0)]) (hd := [(it, siE x.cps.toList.length), (acc, liS ([] ++ zipS (x.cps.toList.filter inR) ts) (0 + (x.cps.toList.filter inR).length)), (Lc, fO w (some (k, x.cps.toList.getLast?.getD 0, tb)))]) (by rw [List.append_nil]; exact L0) (by rw [List.append_nil]; exact D) rfl
  refine ⟨h', t', [B, n, k, tb], [], rfl, ht', rfl, rfl, ?_, rfl, ?_⟩
  · intro a ha
    simp only [List.mem_cons, List.not_mem_nil, or_false] at ha
    rcases ha with rfl | rfl | rfl | rfl
    · exact hB
    · exact hn1
    · exact hk
    · exact htb
  · show After h h' [it, acc, Lc] [siE x.cps.toList.length, liS (zipS (filL x) (decT B n (filL x).length)) (filL x).length, fO1 w k (x.cps.toList.getLast?.getD 0) tb] [] []
    rw [show decT B n (filL x).length = ts from hdec]
    rw [List.nil_append, Nat.zero_add] at z
    exact z
noncomputable def filtG (w : World) (c : Code) : GH :=
  { needs := [clI c, clA c, (clE c).locals], code := fun _ => ccF w (clL c) (clE c).locals (clI c) (clA c), props := fun l => [(siX (oAt l 0)).cps.toList.length ≤ 1000, 1 ≤ (siX (oAt l 0)).cps.toList.length],
    objs := fun l => [siO (siX (oAt l 0)) (siT (oAt l 0)) 0, liS [] 0, fO0], hk := fun l => strictS (fiAt (oAt l 0) 0) fun x _ => hkF w x }
noncomputable def filtHook (w : World) : Code → Option Hr := cHook (isCl 102 50) (filtG w)
theorem filt_hook (w : World) : HookS pr w (ktA w) 111 1 440 4400 (filtHook w) := cHook_n 3 (fun _ _ => rfl) fun c f hp => by
  have eh : (filtG w c).hk ((List.range 3).map f) = hkF w (siX (f 0)) := strictS_eq (fiAt (f 0) 0) (fun x _ => hkF w x)
  show SpecC _ _ _ _ _ _ _ _ _ _ { (filtG w c).hk ((List.range 3).map f) with eqs := [] }
  rw [eh]
  exact filt_spec w _ _ _ _ _ _ (hp _ (.head _)) (hp _ (.tail _ (.head _)))
end Mine
end
section
open PySem PySem.W PyProof.Rows PySem.W.X Mine
set_option Elab.async false
set_option maxRecDepth 100000
set_option maxHeartbeats 0
set_option linter.unusedVariables false
namespace Mine
theorem powB_spec (w : World) (b n ta tb : Nat) (hb : b = 8 ∨ b = 64) (hn : n ≤ 2) : SpecC pr w (ktA w) 111 1 800 8000 (.builtin "int.__pow__" ⟨[.int (.ofNat b) ta, .int (.ofNat n) tb], []⟩) [] [] (hkInt (.ofNat (b ^ n))) := by
  refine gives_spec PySem.F.entry_int_pow (by decide +kernel) ?_
  by_cases e : n = 0
  · subst e
    have z := AutoIntG9.int___pow___int_int_0 (.ofNat b) ta (.ofNat 0) tb (by decide) (by decide)
    exact z
  · have e2 : ((Int.ofNat b) ^ (Int.ofNat n).toNat) = .ofNat (b ^ n) := by simp
    rw [← e2]
    refine AutoIntG2.int___pow___int_int_4 (.ofNat b) ta (.ofNat n) tb (by simp) (by simpa using e) (by rcases hb with rfl | rfl <;> decide) (by rcases hb with rfl | rfl <;> decide) ?_
    have h1 : Builtin.Int.intBits (.ofNat b) ≤ 8 := by rcases hb with rfl | rfl <;> decide +kernel
    have h2 : (Builtin.Int.intBits (.ofNat b)) * (Int.ofNat n).toNat ≤ 16 := Nat.mul_le_mul h1 hn
    simp only [Builtin.Int.intTooBig, bitsLine]
    simp
    simp at h2
    omega
noncomputable def pbB (a : Args) : Nat := match Nat.beq (intOf (pA a 0)).toNat 8 with
  | true => 8
  | false => 64
noncomputable def pbN (a : Args) : Nat := match Nat.ble (intOf (pA a 1)).toNat 2 with
  | true => (intOf (pA a 1)).toNat
  | false => 0
theorem pb_ok (a : Args) : (pbB a = 8 ∨ pbB a = 64) ∧ pbN a ≤ 2 := by
  unfold pbB pbN
  refine ⟨?_, ?_⟩
  · cases Nat.beq (intOf (pA a 0)).toNat 8
    · exact .inr rfl
    · exact .inl rfl
  · cases e : Nat.ble (intOf (pA a 1)).toNat 2
    · exact Nat.zero_le 2
    · exact Nat.le_of_ble_eq_true e
noncomputable def pbT (a : Args) : Bool := match two isInt a with
  | true => match isN 8 (pA a 0) with
    | true => true
    | false => isN 64 (pA a 0)
  | false => false
noncomputable def pbG' (b n t u : Nat) : GH := { needs := [], code := fun _ => .builtin "" ⟨[.int (.ofNat b) t, .int (.ofNat n) u], []⟩, objs := fun _ => [], hk := fun _ => hkInt (.ofNat (b ^ n)) }
noncomputable def pbG (a : Args) : GH := strict (pbB a) fun b => strict (pbN a) fun n => pbG' b n (tokOf (pA a 0)) (tokOf (pA a 1))
noncomputable def pbHook : Code → Option Hr := bHook 116512447577011902704086890 pbT pbG
theorem pb_hook (w : World) : HookS pr w (ktA w) 111 1 800 8000 pbHook := by
  unfold pbHook
  rw [show pbG = fun a => pbG' (pbB a) (pbN a) (tokOf (pA a 0)) (tokOf (pA a 1)) from funext fun a => (strict_eq _ _).trans (strict_eq _ _)]
  exact bHook_n (name := "int.__pow__") (by decide +kernel) 0 (fun _ _ => rfl) fun a _ _ => powB_spec w _ _ _ _ (pb_ok a).1 (pb_ok a).2
noncomputable def rdFd (w : World) : FuncData := fdOf ((ktA w).get 30)
noncomputable def rdBody (w : World) : List Stmt := match (rdFd w).body with
  | .stmts b => b
  | _ => []
noncomputable def fTg (s : Stmt) : PySem.Expr := match s with
  | .For t _ _ _ _ => t
  | _ => default
noncomputable def fBd (s : Stmt) : List Stmt := match s with
  | .For _ _ b _ _ => b
  | _ => []
noncomputable def rdE (w : World) (L : Addr) : Env :=
  { scope := (rdFd w).scope, locals := L, globals := (rdFd w).globals, cells := [], qual := (rdFd w).qualname ++ ".<locals>.", func := some 30, code := (rdFd w).code, frame := some L, builtins := (rdFd w).builtins }
noncomputable def rdF (w : World) (k0 k1 k2 k3 k4 : Nat) (x : Str) (tx : Nat) (l I V : Addr) : Option (Nat × Nat × Nat) → Obj
  | none => { cls := .type "frame", data := .dict #[rEnt w "function" k0 (.ref 105), rEnt w "sequence" k1 (.str x tx), rEnt w "initial" k2 (.ref l), rEnt w "it" k3 (.ref I), rEnt w "value" k4 (.ref V)] 5 }
  | some (k5, c, t) => { cls := .type "frame", data := .dict #[rEnt w "function" k0 (.ref 105), rEnt w "sequence" k1 (.str x tx), rEnt w "initial" k2 (.ref l), rEnt w "it" k3 (.ref I), rEnt w "value" k4 (.ref V), rEnt w "element" k5 (.str ⟨#[c]⟩ t)] 6 }
noncomputable def rdC (w : World) (L I : Addr) : Code := .forLoop (fTg ((rdBody w).getD 2 default)) (.ref I) (fBd ((rdBody w).getD 2 default)) [] (rdE w L)
noncomputable def rdHook (w : World) (c : Nat) : Code → Option Hr := orHook (snextHook c) (orHook lastHook (orHook laddHook pbHook))
theorem rd_hook (w : World) (c : Nat) : HookS pr w (ktA w) 111 1 800 8000 (rdHook w c) := (snext_hook w c).or ((last_hook w).or ((ladd_hook w).or (pb_hook w)))
noncomputable def lgR (w : World) (L I V : Addr) (k0 k1 k2 k3 k4 : Nat) (x : Str) (tx i : Nat) (l : Addr) (vs : List Value) (e : Nat) (o : Option (Nat × Nat × Nat)) : List (Addr × Obj) := [(I, siO x tx i), (V, liS vs e), (L, rdF w k0 k1 k2 k3 k4 x tx l I V o)]
end Mine
end
section
open PySem PySem.W PyProof.Rows PySem.W.X Mine
set_option Elab.async false
set_option maxRecDepth 100000
set_option maxHeartbeats 0
set_option linter.unusedVariables false
namespace Mine
noncomputable def w64 (c : Nat) : Nat := match c with
  | 114 => 1
  | 119 => 64
  | _ => 4096
noncomputable def lastI (vs : List Value) : Int := intOf (vs.getD (vs.length - 1) .none)
section
variable (w : World) (L I V : Addr) (k0 k1 k2 k3 k4 : Nat) (x : Str) (tx i : Nat) (l : Addr) (vs : List Value) (e : Nat) (o : Option (Nat × Nat × Nat)) (c : Nat) (kk : (Nat → Nat) → Nat) (h : Heap) (g : Array GenState) (d : Drawn) (os : OsState)
noncomputable def orcRd (b1 b2 b3 : Bool) : List Nat :=
  orcG w (DZ (rdC w 1000001 1000002)) encI (rdHook w c) (lgR w 1000001 1000002 1000003 k0 k1 k2 k3 k4 x tx i l vs e o) 505 5050 800 8000 g d os b1 b2 b3
noncomputable def rnRd : RanT := ranT pr w 111 1 (ktA w) (lgR w L I V k0 k1 k2 k3 k4 x tx i l vs e o) 505 5050 800 8000 h g d os (rdHook w c) NoE encI (DZ (rdC w L I)) 20000 (orcRd w k0 k1 k2 k3 k4 x tx i l vs e o c g d os)
noncomputable def factsRd : List Prop := [vs.length + 1 ≤ 1000, LastOk vs, x.cps.toList[i]? = some c]
noncomputable def obRd (ad tk : Nat → Nat) : List Obj := [siO x tx (i + 1), liS (vs ++ [.int (lastI vs + .ofNat (w64 c)) (tk 10)]) 0, rdF w k0 k1 k2 k3 k4 x tx l I (ad 5) (some (kk tk, c, tk 0)), liS vs e]
noncomputable def ChkRd : Prop := ∀ b1 b2 b3, tellG1 (rnRd w L I V k0 k1 k2 k3 k4 x tx i l vs e o c h g d os) [0, 5, 2, 1] b1 b2 b3 = tellG2 (rnRd w L I V k0 k1 k2 k3 k4 x tx i l vs e o c h g d os) 111 1 encI (fun _ _ => factsRd x i vs c) (fun _ _ => .again (rdC w L I)) (obRd w I k0 k1 k2 k3 k4 x tx i l vs e c kk) b1 b2 b3
end
section
variable {w : World} {L I V : Addr} {k0 k1 k2 k3 k4 : Nat} {x : Str} {tx i : Nat} {l : Addr} {vs : List Value} {e : Nat} {h : Heap} {g : Array GenState} {d : Drawn} {os : OsState}
theorem cr0 : ChkRd w L I V k0 k1 k2 k3 k4 x tx i l vs e none 114 (fun tk => tk 1) h g d os := orc13 (by kernel_rfl)
theorem cr1 : ChkRd w L I V k0 k1 k2 k3 k4 x tx i l vs e none 119 (fun tk => tk 1) h g d os := orc13 (by kernel_rfl)
theorem cr2 : ChkRd w L I V k0 k1 k2 k3 k4 x tx i l vs e none 120 (fun tk => tk 1) h g d os := orc13 (by kernel_rfl)
theorem cr3 (k b tb : Nat) : ChkRd w L I V k0 k1 k2 k3 k4 x tx i l vs e (some (k, b, tb)) 114 (fun _ => k) h g d os := orc13 (by kernel_rfl)
theorem cr4 (k b tb : Nat) : ChkRd w L I V k0 k1 k2 k3 k4 x tx i l vs e (some (k, b, tb)) 119 (fun _ => k) h g d os := orc13 (by kernel_rfl)
theorem cr5 (k b tb : Nat) : ChkRd w L I V k0 k1 k2 k3 k4 x tx i l vs e (some (k, b, tb)) 120 (fun _ => k) h g d os := orc13 (by kernel_rfl)
end
noncomputable def zipI (zs : List Int) (ts : List Nat) : List Value := (zs.zip ts).map fun p => .int p.1 p.2
noncomputable def prefS (z : Int) : List Nat → List Int
  | [] => []
  | c :: r => (z + .ofNat (w64 c)) :: prefS (z + .ofNat (w64 c)) r
theorem zipI_cons (z : Int) (t : Nat) (zs : List Int) (ts : List Nat) : zipI (z :: zs) (t :: ts) = .int z t :: zipI zs ts := rfl
theorem prefS_len : ∀ (r : List Nat) (z : Int), (prefS z r).length = r.length
  | [], _ => rfl
  | c :: r, z => congrArg (· + 1) (prefS_len r _)
theorem last_app (A : List Value) (z : Int) (tz : Nat) : LastOk (A ++ [.int z tz]) ∧ lastI (A ++ [.int z tz]) = z := by
  have e : (A ++ [Value.int z tz]).length - 1 = A.length := by simp
  have e2 : (A ++ [Value.int z tz])[A.length]? = some (.int z tz) := by simp
  have e3 : (A ++ [Value.int z tz]).getD A.length .none = .int z tz := by rw [List.getD_eq_getElem?_getD, e2]; rfl
  refine ⟨⟨by simp, ?_⟩, ?_⟩
  · unfold itV
    rw [e, e3, e2]
    rfl
  · unfold lastI
    rw [e, e3]
    rfl
section
variable {w : World} {L I : Addr} {k0 k1 k2 k3 k4 : Nat} {x : Str} {tx : Nat} {l : Addr} {xs : List Addr} {h₀ : Heap} {g : Array GenState} {d : Drawn} {os : OsState} {R : Result → Shared → Prop}
theorem rd_turn {V : Addr} {i e c : Nat} {vs : List Value} {o : Option (Nat × Nat × Nat)} {kk : (Nat → Nat) → Nat} {h : Heap} {t : Nat} {M : List (Addr × Obj)} (H : ∀ h, ChkRd w L I V k0 k1 k2 k3 k4 x tx i l vs e o c kk h g d os) (hF : ∀ P ∈ factsRd x i vs c, P) (hkk : ∀ tk : Nat → Nat, (∀ i, 1 ≤ tk i) → 1 ≤ kk tk)
    (D : Lg xs h₀ h (lgR w L I V k0 k1 k2 k3 k4 x tx i l vs e o ++ M)) (hT : TopOf (ktA w) h) (hn : 111 ≤ h₀.objs.size) (hx : ∀ a ∈ xs, (ktA w).get a = none) (ht : 1 ≤ t)
    (hq : ∀ h' t' V' k tb tn, 1 ≤ k → 1 ≤ tb → 1 ≤ tn → Lg xs h₀ h' (lgR w L I V' k0 k1 k2 k3 k4 x tx (i + 1) l (vs ++ [.int (lastI vs + .ofNat (w64 c)) tn]) 0 (some (k, c, tb)) ++ ((V, liS vs e) :: M)) → TopOf (ktA w) h' → 1 ≤ t' → codeAny (model pr w) (An 505 5050) (rdC w L I) R ⟨h', g, d, t', os⟩) :
    codeAny (model pr w) (An 505 5050) (rdC w L I) R ⟨h, g, d, t, os⟩ := by
  refine loop_turn rfl ?_
  have B := D.base
  refine led_goG encI 20000 (orcRd w k0 k1 k2 k3 k4 x tx i l vs e o c g d os) [0, 5, 2, 1] (fun _ _ => factsRd x i vs c) (fun _ _ => hF) (fun _ _ => .again (rdC w L I)) (obRd w I k0 k1 k2 k3 k4 x tx i l vs e c kk)
    B hT (Nat.le_trans hn D.size) (ktA_bound w) (D.outs hn hx) ht encI_inj (rd_hook w c) ?_ (by decide) (H h) fun h' t' ad tk had htk D' hT' ht' => ?_
  · cases o <;> kernel_rfl
  · have D2 : Lg xs h₀ h' (([(I, siO x tx (i + 1)), (ad 5, liS (vs ++ [.int (lastI vs + .ofNat (w64 c)) (tk 10)]) 0), (L, rdF w k0 k1 k2 k3 k4 x tx l I (ad 5) (some (kk tk, c, tk 0))), (V, liS vs e)]) ++ M) := D.frame D'
    exact ⟨rfl, hq h' t' (ad 5) (kk tk) (tk 0) (tk 10) (hkk tk htk) (htk 0) (htk 10) D2 hT' ht'⟩
noncomputable def orcRE (w : World) (k0 k1 k2 k3 k4 : Nat) (x : Str) (tx i : Nat) (l : Addr) (vs : List Value) (e : Nat) (o : Option (Nat × Nat × Nat)) (g : Array GenState) (d : Drawn) (os : OsState) (b1 b2 b3 : Bool) : List Nat :=
  orcG w (DZ (rdC w 1000001 1000002)) encI snextEHook (lgR w 1000001 1000002 1000003 k0 k1 k2 k3 k4 x tx i l vs e o) 505 5050 800 8000 g d os b1 b2 b3
theorem rd_end {V : Addr} {i e : Nat} {vs : List Value} {o : Option (Nat × Nat × Nat)} {h : Heap} {t : Nat} {M : List (Addr × Obj)} (hi : x.cps.toList.length ≤ i)
    (D : Lg xs h₀ h (lgR w L I V k0 k1 k2 k3 k4 x tx i l vs e o ++ M)) (hT : TopOf (ktA w) h) (hn : 111 ≤ h₀.objs.size) (hx : ∀ a ∈ xs, (ktA w).get a = none) (ht : 1 ≤ t)
    (hq : ∀ h' t', Lg xs h₀ h' ([(I, siE i), (V, liS vs e), (L, rdF w k0 k1 k2 k3 k4 x tx l I V o)] ++ M) → 1 ≤ t' → R (.ok .next) ⟨h', g, d, t', os⟩) :
    codeAny (model pr w) (An 505 5050) (rdC w L I) R ⟨h, g, d, t, os⟩ := by
  refine loop_turn rfl ?_
  have B := D.base
  have fin : ∀ h' t' , Lg (keysOf (lgR w L I V k0 k1 k2 k3 k4 x tx i l vs e o)) h h' [(I, siE i), (V, liS vs e), (L, rdF w k0 k1 k2 k3 k4 x tx l I V o)] → 1 ≤ t' → R (.ok .next) ⟨h', g, d, t', os⟩ := fun h' t' D' ht' => hq h' t' (D.frame D') ht'
  cases o with
  | none =>
    refine led_goG encI 20000 (orcRE w k0 k1 k2 k3 k4 x tx i l vs e none g d os) [0, 1, 2] (fun _ _ => [x.cps.toList.length ≤ i]) (fun _ _ => allC hi allN) (fun _ _ => .again (.block [] (rdE w L))) (fun ad tk => [siE i, liS vs e, rdF w k0 k1 k2 k3 k4 x tx l I V none])
      B hT (Nat.le_trans hn D.size) (ktA_bound w) (D.outs hn hx) ht encI_inj (snextE_hook w) (by kernel_rfl) (by decide) (orc13 (by kernel_rfl)) fun h' t' ad tk had htk D' hT' ht' => ?_
    exact ⟨rfl, codeAny_block (wpAny_execs_nil (fin h' t' D' ht'))⟩
  | some q =>
    refine led_goG encI 20000 (orcRE w k0 k1 k2 k3 k4 x tx i l vs e (some q) g d os) [0, 1, 2] (fun _ _ => [x.cps.toList.length ≤ i]) (fun _ _ => allC hi allN) (fun _ _ => .again (.block [] (rdE w L))) (fun ad tk => [siE i, liS vs e, rdF w k0 k1 k2 k3 k4 x tx l I V (some q)])
      B hT (Nat.le_trans hn D.size) (ktA_bound w) (D.outs hn hx) ht encI_inj (snextE_hook w) (by kernel_rfl) (by decide) (orc13 (by kernel_rfl)) fun h' t' ad tk had htk D' hT' ht' => ?_
    exact ⟨rfl, codeAny_block (wpAny_execs_nil (fin h' t' D' ht'))⟩
theorem rd_loop (hT0 : TopOf (ktA w) h₀) (hn : 111 ≤ h₀.objs.size) (hx : ∀ a ∈ xs, (ktA w).get a = none) (hl : x.cps.toList.length ≤ 500) (hR : ∀ c ∈ x.cps.toList, c ∈ rwx) {M : List (Addr × Obj)} :
    ∀ (r : List Nat) (i : Nat) (A : List Value) (z : Int) (tz e : Nat) (V : Addr) (o : Option (Nat × Nat × Nat)) (M : List (Addr × Obj)) (h : Heap) (t : Nat), x.cps.toList.drop i = r → i ≤ x.cps.toList.length → A.length ≤ i → okO o (x.cps.toList.take i) → 1 ≤ t → Lg xs h₀ h (lgR w L I V k0 k1 k2 k3 k4 x tx i l (A ++ [.int z tz]) e o ++ M) →
      (∀ h' t' V' e' ts o', ts.length = r.length → (∀ a ∈ ts, 1 ≤ a) → okO o' x.cps.toList → (r ≠ [] → e' = 0) → (r = [] → e' = e ∧ V' = V) → Lg xs h₀ h' ([(I, siE x.cps.toList.length), (V', liS (A ++ [.int z tz] ++ zipI (prefS z r) ts) e'), (L, rdF w k0 k1 k2 k3 k4 x tx l I V' o')] ++ M) → (r ≠ [] → Lg xs h₀ h' ([(I, siE x.cps.toList.length), (V', liS (A ++ [.int z tz] ++ zipI (prefS z r) ts) e'), (L, rdF w k0 k1 k2 k3 k4 x tx l I V' o')] ++ ((V, liS (A ++ [.int z tz]) e) :: M))) → 1 ≤ t' → R (.ok .next) ⟨h', g, d, t', os⟩) →
      codeAny (model pr w) (An 505 5050) (rdC w L I) R ⟨h, g, d, t, os⟩ := by
  intro r
  induction r with
  | nil =>
    intro i A z tz e V o M h t hr hi hA ho ht D hq
    have hie : i = x.cps.toList.length := Nat.le_antisymm hi (List.drop_eq_nil_iff.mp hr)
    subst hie
    refine rd_end (Nat.le_refl _) D (hT0.keeps D.keep hx) hn hx ht fun h' t' D' ht' => ?_
    rw [List.take_length] at ho
    refine hq h' t' V e [] o rfl (fun _ h => nomatch h) ho (fun q => absurd rfl q) (fun _ => ⟨rfl, rfl⟩) ?_ (fun q => absurd rfl q) ht'
    rw [show A ++ [Value.int z tz] ++ zipI (prefS z []) [] = A ++ [Value.int z tz] from List.append_nil _]
    exact D'
  | cons c r ih =>
    intro i A z tz e V o M h t hr hi hA ho ht D hq
    have hlt : i < x.cps.toList.length := by
      rcases Nat.lt_or_ge i x.cps.toList.length with q | q
      · exact q
      · rw [List.drop_eq_nil_of_le q] at hr; cases hr
    have hc : x.cps.toList[i]? = some c := by
      have := congrArg (·[0]?) hr
      rw [List.getElem?_drop] at this
      simpa using this
    have hr' : x.cps.toList.drop (i + 1) = r := by
      rw [← List.drop_drop, hr]
      rfl
    have hlast : (x.cps.toList.take (i + 1)).getLast? = some c := by
      rw [List.take_add_one, hc]
      simp
    obtain ⟨la, lz⟩ := last_app A z tz
    have go : ∀ (kk : (Nat → Nat) → Nat), (∀ tk : Nat → Nat, (∀ i, 1 ≤ tk i) → 1 ≤ kk tk) → (∀ h, ChkRd w L I V k0 k1 k2 k3 k4 x tx i l (A ++ [.int z tz]) e o c kk h g d os) → codeAny (model pr w) (An 505 5050) (rdC w L I) R ⟨h, g, d, t, os⟩ := fun kk hkk H => by
      refine rd_turn H (allC ?_ (allC la (allC hc allN))) hkk D (hT0.keeps D.keep hx) hn hx ht fun h' t' V' k tb tn hk htb htn D' hT' ht' => ?_
      · rw [List.length_append, List.length_singleton]; omega
      · rw [lz] at D'
        refine ih (i + 1) (A ++ [.int z tz]) (z + .ofNat (w64 c)) tn 0 V' (some (k, c, tb)) ((V, liS (A ++ [.int z tz]) e) :: M) h' t' hr' hlt (by rw [List.length_append]; exact Nat.succ_le_succ hA) (by unfold okO; rw [hlast]; exact ⟨k, tb, hk, htb, rfl⟩) ht' D' fun h2 t2 V2 e2 ts o' a1 a2 a3 a4 a5 a6 _ a7 => ?_
        have e1 : A ++ [Value.int z tz] ++ zipI (prefS z (c :: r)) (tn :: ts) = A ++ [.int z tz] ++ [.int (z + .ofNat (w64 c)) tn] ++ zipI (prefS (z + .ofNat (w64 c)) r) ts := by
          show A ++ [Value.int z tz] ++ (Value.int (z + .ofNat (w64 c)) tn :: zipI (prefS (z + .ofNat (w64 c)) r) ts) = _
          rw [List.append_assoc _ [Value.int (z + .ofNat (w64 c)) tn]]
          rfl
        refine hq h2 t2 V2 e2 (tn :: ts) o' (congrArg (· + 1) a1) (fun a ha => ?_) a3 (fun _ => ?_) (fun q => nomatch q) ?_ ?_ a7
        · rcases List.mem_cons.mp ha with rfl | ha
          · exact htn
          · exact a2 a ha
        · by_cases q : r = []
          · exact (a5 q).1
          · exact a4 q
        · rw [e1]
          refine Lg.sub a6 (fun p hp => ?_) ?_
          · rcases List.mem_append.mp hp with hp | hp
            · exact List.mem_append.mpr (.inl hp)
            · exact List.mem_append.mpr (.inr (.tail _ hp))
          · have nd := a6.nd
            unfold keysOf at nd ⊢
            refine nd.sublist (List.Sublist.map _ ?_)
            exact List.Sublist.append (List.Sublist.refl _) (List.sublist_cons_self _ _)
        · intro _
          rw [e1]
          exact a6
    have hcc : c = 114 ∨ c = 119 ∨ c = 120 := by
      have := hR c (List.mem_of_getElem? hc)
      simpa using this
    cases o with
    | none =>
      rcases hcc with rfl | rfl | rfl
      · exact go _ (fun tk h => h 1) fun h => cr0
      · exact go _ (fun tk h => h 1) fun h => cr1
      · exact go _ (fun tk h => h 1) fun h => cr2
    | some q =>
      obtain ⟨k, b, tb⟩ := q
      have hk : 1 ≤ k := by
        unfold okO at ho
        cases e : (x.cps.toList.take i).getLast? with
        | none => rw [e] at ho; cases ho
        | some c' =>
          rw [e] at ho
          obtain ⟨k', t', q1, _, q3⟩ := ho
          cases q3
          exact q1
      rcases hcc with rfl | rfl | rfl
      · exact go _ (fun tk _ => hk) fun h => cr3 k b tb
      · exact go _ (fun tk _ => hk) fun h => cr4 k b tb
      · exact go _ (fun tk _ => hk) fun h => cr5 k b tb
end
end Mine
end
section
open PySem PySem.W PyProof.Rows PySem.W.X Mine
set_option Elab.async false
set_option maxRecDepth 100000
set_option maxHeartbeats 0
set_option linter.unusedVariables false
namespace Mine
noncomputable def cntV (z : Int) (tz : Nat) (l : List Nat) (B n : Nat) : List Value := .int z tz :: zipI (prefS z l) (decT B n l.length)
noncomputable def hkRd (w : World) (k0 k1 k2 k3 k4 : Nat) (x : Str) (tx : Nat) (l I : Addr) (z : Int) (tz e : Nat) : Hk :=
  { nt := 4, nn := 1, res := fun _ _ => .ok .next, news := fun tv _ => [liS (cntV z tz x.cps.toList (tv.getD 0 0) (tv.getD 1 0)) 0],
    upd := fun tv av => [siE x.cps.toList.length, rdF w k0 k1 k2 k3 k4 x tx l I (av.getD 0 0) (some (tv.getD 2 0, x.cps.toList.getLast?.getD 0, tv.getD 3 0)), liS [.int z tz] e] }
theorem rdl_spec (w : World) (L I V : Addr) (k0 k1 k2 k3 k4 : Nat) (x : Str) (tx : Nat) (l : Addr) (z : Int) (tz e : Nat) (h1 : 1 ≤ x.cps.toList.length) (hl : x.cps.toList.length ≤ 500) (hR : ∀ c ∈ x.cps.toList, c ∈ rwx) :
    SpecC pr w (ktA w) 111 1 505 5050 (rdC w L I) [I, L, V] [siO x tx 0, rdF w k0 k1 k2 k3 k4 x tx l I V none, liS [.int z tz] e] (hkRd w k0 k1 k2 k3 k4 x tx l I z tz e) := by
  intro A h g d t os a1 a2 a3 hT hn ht hg hlo _ hnd hf
  show codeAny (model pr w) A _ (PostC (hkRd w k0 k1 k2 k3 k4 x tx l I z tz e) [I, L, V] h g d os) _
  refine code_An (d := 505) (u := 5050) a1 a2 a3 ?_
  have L0 : Lg [I, L, V] h h (lgR w L I V k0 k1 k2 k3 k4 x tx 0 l ([] ++ [.int z tz]) e none ++ []) := (Lg.ofSpec (needs := [I, L, V]) (objs := [siO x tx 0, rdF w k0 k1 k2 k3 k4 x tx l I V none, liS [.int z tz] e]) hg hlo hnd).perm (List.Perm.cons _ (List.Perm.swap _ _ _))
  have hne : x.cps.toList ≠ [] := fun e => by rw [e] at h1; exact absurd h1 (by decide)
  refine rd_loop (xs := [I, L, V]) (h₀ := h) (M := []) hT hn hf hl hR x.cps.toList 0 [] z tz e V none [] h t rfl (Nat.zero_le _) (Nat.le_refl _) rfl ht L0 fun h' t' V' e' ts o' b1 b2 b3 b4 _ _ D ht' => ?_
  have D := D hne
  have he := b4 hne
  subst he
  obtain ⟨B, n, hB, hn1, hdec⟩ := enc_toks ts b2
  rw [b1] at hdec
  obtain ⟨k, tb, hk, htb, rfl⟩ : ∃ k tb, 1 ≤ k ∧ 1 ≤ tb ∧ o' = some (k, x.cps.toList.getLast?.getD 0, tb) := by
    unfold okO at b3
    cases e : x.cps.toList.getLast? with
    | none =>
      rw [List.getLast?_eq_none_iff] at e
      exact absurd e hne
    | some c =>
      rw [e] at b3
      exact b3
  refine ⟨h', t', [B, n, k, tb], [V'], rfl, ht', rfl, rfl, ?_, rfl, ?_⟩
  · intro a ha
    simp only [List.mem_cons, List.not_mem_nil, or_false] at ha
    rcases ha with rfl | rfl | rfl | rfl
    · exact hB
    · exact hn1
    · exact hk
    · exact htb
  · refine Lg.after (upd := [siE x.cps.toList.length, rdF w k0 k1 k2 k3 k4 x tx l I V' (some (k, x.cps.toList.getLast?.getD 0, tb)), liS [.int z tz] e]) (D.perm (l' := _) ?_) rfl rfl
    show ([(I, siE x.cps.toList.length), (L, rdF w k0 k1 k2 k3 k4 x tx l I V' (some (k, x.cps.toList.getLast?.getD 0, tb))), (V, liS [.int z tz] e), (V', liS (cntV z tz x.cps.toList B n) 0)]).Perm [(I, siE x.cps.toList.length), (V', liS (.int z tz :: zipI (prefS z x.cps.toList) ts) 0), (L, rdF w k0 k1 k2 k3 k4 x tx l I V' (some (k, x.cps.toList.getLast?.getD 0, tb))), (V, liS [.int z tz] e)]
    rw [show cntV z tz x.cps.toList B n = .int z tz :: zipI (prefS z x.cps.toList) ts from by unfold cntV; rw [hdec]]
    refine List.Perm.cons _ ?_
    exact (List.Perm.cons _ (List.Perm.swap _ _ _)).trans (List.Perm.swap _ _ _)
noncomputable def flE (c : Code) : Env := match c with
  | .forLoop _ _ _ _ e => e
  | _ => default
noncomputable def flI (c : Code) : Addr := match c with
  | .forLoop _ i _ _ _ => refA i
  | _ => 0
noncomputable def isFl (n : Nat) (c : Code) : Bool := match c with
  | .forLoop _ _ _ _ e => match e.func with
    | some a => Nat.beq a n
    | none => false
  | _ => false
noncomputable def rdlG (w : World) (c : Code) : GH :=
  { needs := [flI c, (flE c).locals], more := [fun l => [refA (enAt (oAt l 1) 4).val]], code := fun _ => rdC w (flE c).locals (flI c),
    props := fun l => [1 ≤ (siX (oAt l 0)).cps.toList.length, (siX (oAt l 0)).cps.toList.length ≤ 500, ∀ c ∈ (siX (oAt l 0)).cps.toList, c ∈ rwx],
    objs := fun l => [siO (siX (oAt l 0)) (siT (oAt l 0)) 0, rdF w (keyTok (enAt (oAt l 1) 0)) (keyTok (enAt (oAt l 1) 1)) (keyTok (enAt (oAt l 1) 2)) (keyTok (enAt (oAt l 1) 3)) (keyTok (enAt (oAt l 1) 4)) (siX (oAt l 0)) (siT (oAt l 0)) (refA (enAt (oAt l 1) 2).val) (flI c) (refA (enAt (oAt l 1) 4).val) none, liS [.int (intOf ((sqAt (oAt l 2)).getD 0 .none)) (tokOf ((sqAt (oAt l 2)).getD 0 .none))] (epAt (oAt l 2))],
    hk := fun l => strictS (enAt (oAt l 1) 0).key fun _ k0 => strictS (enAt (oAt l 1) 1).key fun _ k1 => strictS (enAt (oAt l 1) 2).key fun _ k2 => strictS (enAt (oAt l 1) 3).key fun _ k3 => strictS (enAt (oAt l 1) 4).key fun _ k4 => strictS (fiAt (oAt l 0) 0) fun x tx => strictR (enAt (oAt l 1) 2).val fun b => strictI ((sqAt (oAt l 2)).getD 0 .none) fun z tz => hkRd w k0 k1 k2 k3 k4 x tx b (flI c) z tz (epAt (oAt l 2)) }
noncomputable def rdlHook (w : World) : Code → Option Hr := cHook (isFl 30) (rdlG w)
theorem rdl_hook (w : World) : HookS pr w (ktA w) 111 1 505 5050 (rdlHook w) := cHook_n 3 (fun _ _ => rfl) fun c f hp => by
  have eh : (rdlG w c).hk ((List.range 3).map f) = hkRd w (keyTok (enAt (f 1) 0)) (keyTok (enAt (f 1) 1)) (keyTok (enAt (f 1) 2)) (keyTok (enAt (f 1) 3)) (keyTok (enAt (f 1) 4)) (siX (f 0)) (siT (f 0)) (refA (enAt (f 1) 2).val) (flI c) (intOf ((sqAt (f 2)).getD 0 .none)) (tokOf ((sqAt (f 2)).getD 0 .none)) (epAt (f 2)) := by
    show (strictS (enAt (f 1) 0).key fun _ k0 => strictS (enAt (f 1) 1).key fun _ k1 => strictS (enAt (f 1) 2).key fun _ k2 => strictS (enAt (f 1) 3).key fun _ k3 => strictS (enAt (f 1) 4).key fun _ k4 => strictS (fiAt (f 0) 0) fun x tx => strictR (enAt (f 1) 2).val fun b => strictI ((sqAt (f 2)).getD 0 .none) fun z tz => hkRd w k0 k1 k2 k3 k4 x tx b (flI c) z tz (epAt (f 2))) = _
    rw [strictS_eq, strictS_eq, strictS_eq, strictS_eq, strictS_eq, strictS_eq, strictR_eq, strictI_eq]
    rfl
  show SpecC _ _ _ _ _ _ _ _ _ _ { (rdlG w c).hk ((List.range 3).map f) with eqs := [] }
  rw [eh]
  exact rdl_spec w _ _ _ _ _ _ _ _ _ _ _ _ _ _ (hp _ (.head _)) (hp _ (.tail _ (.head _))) (hp _ (.tail _ (.tail _ (.head _))))
end Mine
end
section
open PySem PySem.W PyProof.Rows PySem.W.X Mine
set_option Elab.async false
set_option maxRecDepth 100000
set_option maxHeartbeats 4000000
set_option linter.unusedVariables false
namespace Mine
theorem led_goH {prog : Program} {w : World} {n₀ t₁ dd uu dm um : Nat} {kt : KT} {l : List (Addr × Obj)} {h₀ h : Heap} {xs : List Addr} {g : Array GenState} {d : Drawn} {os : OsState} {hook : Code → Option Hr}
    {α : Type} {tree : Sem α} (enc : α → PySem.Fin) {Q : α → Shared → Prop} {E : Value → Shared → Prop} (n : Nat) (osB : Bool → Bool → Bool → List Nat) (is : List Nat) (facts : (Nat → Nat) → (Nat → Nat) → List Prop) (hfacts : ∀ ad tk, (∀ i, t₁ ≤ tk i) → ∀ P ∈ facts ad tk, P) (v : (Nat → Nat) → (Nat → Nat) → α) (objs : (Nat → Nat) → (Nat → Nat) → List Obj) {t : Nat}
    (L : Lg xs h₀ h l) (hT : TopOf kt h) (hn : n₀ ≤ h₀.objs.size) (hb : ktBound kt ≤ n₀) (hx : ∀ a ∈ xs, kt.get a = none) (ht : t₁ ≤ t)
    (hinj : ∀ a b, enc a = enc b → a = b) (hh : HookS prog w kt n₀ t₁ dm um hook) (hi : allIns (l.map (·.2)) .nil 0 = true) (nd : is.Nodup)
    (H : ∀ b1 b2 b3, tellG1 (ranT prog w n₀ t₁ kt l dd uu dm um h g d os hook E enc tree n osB) is b1 b2 b3 = tellG2 (ranT prog w n₀ t₁ kt l dd uu dm um h g d os hook E enc tree n osB) n₀ t₁ enc facts v objs b1 b2 b3)
    (hq : ∀ h' t' ad tk, (∀ i, n₀ ≤ ad i) → (∀ i, t₁ ≤ tk i) → Lg xs h₀ h' ((is.map (locOf l 0 ad)).zip (objs ad tk)) → TopOf kt h' → t₁ ≤ t' → Q (v ad tk) ⟨h', g, d, t', os⟩) :
    wpAny (model prog w) (An dd uu) tree Q E ⟨h, g, d, t, os⟩ := by
  refine led_any enc n (osB (w.params.followText "special-get-raises") (w.params.followText "for-iterable-display-folded") (w.params.followText "comprehension-iter-twice")) (parS_eq w.params) hn L hT hb hx hi ht hh fun ad tk sp => ?_
  have z := congrFun (congrFun (congrFun (congrFun (H (w.params.followText "special-get-raises") (w.params.followText "for-iterable-display-folded") (w.params.followText "comprehension-iter-twice")) (fun f s => ∀ a, f = enc a → Q a s)) ad) tk) sp
  unfold tellG1 tellG2 ranT tellG at z
  simp only [Prod.mk.injEq] at z
  obtain ⟨z1, ⟨z2, z7⟩, z3, z4⟩ := z
  refine phi_good z1 (eqs_props z2 (by rw [z7]; exact hfacts _ _ (fun i => Nat.le_add_left ..))) z3 fun h' t' D ht' => ?_
  intro a ha
  have ha' := hinj _ _ ha
  subst ha'
  refine hq h' t' _ _ (fun i => Nat.le_add_left ..) (fun i => Nat.le_add_left ..) ?_ ?_ ht'
  · have y := lg_after (V := mkV prog w (w.params.followText "special-get-raises") (w.params.followText "for-iterable-display-folded") (w.params.followText "comprehension-iter-twice") n₀ t₁ kt l dd uu dm um h g d os hook (fun f s => ∀ a, f = enc a → Q a s) E) L D is _ z4 nd
    have e : locOf l n₀ ad = locOf l 0 (fun i => ad i + n₀) := by
      funext i
      unfold locOf
      split <;> rfl
    change Lg xs h₀ h' ((is.map (locOf l n₀ ad)).zip _) at y
    rw [e] at y
    exact y
  · exact top_keeps hn L hT hb hx D.kb
noncomputable def evFd (w : World) : FuncData := fdOf ((ktA w).get 98)
noncomputable def evBody (w : World) : List Stmt := match (evFd w).body with
  | .stmts b => b
  | _ => []
noncomputable def evE (w : World) (L : Addr) : Env :=
  { scope := (evFd w).scope, locals := L, globals := (evFd w).globals, cells := [], qual := (evFd w).qualname ++ ".<locals>.", func := some 98, code := (evFd w).code, frame := some L, builtins := (evFd w).builtins }
noncomputable def evC (w : World) (L I : Addr) : Code := .forLoop (fTg ((evBody w).getD 0 default)) (.ref I) (fBd ((evBody w).getD 0 default)) [] (evE w L)
inductive EvS
  | a
  | b (k1 c t1 : Nat)
  | c (k1 c t1 k2 : Nat) (p : Int) (t2 : Nat)
noncomputable def evF (w : World) (k0 : Nat) (x : Str) (t : Nat) : EvS → Obj
  | .a => { cls := .type "frame", data := .dict #[rEnt w "beads" k0 (.str x t)] 1 }
  | .b k1 c t1 => { cls := .type "frame", data := .dict #[rEnt w "beads" k0 (.str x t), rEnt w "sign" k1 (.str ⟨#[c]⟩ t1)] 2 }
  | .c k1 c t1 k2 p t2 => { cls := .type "frame", data := .dict #[rEnt w "beads" k0 (.str x t), rEnt w "sign" k1 (.str ⟨#[c]⟩ t1), rEnt w "place" k2 (.int p t2)] 3 }
noncomputable abbrev sRwx : Str := ⟨#[114, 119, 120]⟩
noncomputable def lgV (w : World) (L I : Addr) (k0 : Nat) (x : Str) (t ti i : Nat) (s : EvS) : List (Addr × Obj) := [(I, siO sRwx ti i), (L, evF w k0 x t s)]
noncomputable def evHook (w : World) (β : Bool) : Code → Option Hr := orHook countHook (orHook rindexHook (orHook sliceHook (orHook saddHook (orHook modHook (eqHook β)))))
theorem ev_hook (w : World) (β : Bool) : HookS pr w (ktA w) 111 1 800 8000 (evHook w β) := (count_hook w).or ((rindex_hook w).or ((slice_hook w).or ((sadd_hook w).or ((mod_hook w).or (eq_hook w β)))))
end Mine
end
section
open PySem PySem.W PyProof.Rows PySem.W.X Mine
set_option Elab.async false
set_option maxRecDepth 100000
set_option maxHeartbeats 0
set_option linter.unusedVariables false
namespace Mine
noncomputable def refG (w : World) {α : Type} (tree : Sem α) (enc : α → PySem.Fin) (hook : Code → Option Hr) (l : List (Addr × Obj)) (dd uu dm um : Nat) (os' : List Nat) (ad tk : Nat → Nat) (i : Nat) : Obj :=
  (((SRes.run (simS (mkV pr w true true true 0 0 (ktA w) l dd uu dm um default #[] {} {} hook (fun _ _ => True) NoE) ad tk (fun _ => (fun _ => default, [])) 20000 default .any (PySem.W.R.bindR tree fun a => .pure (enc a)) (treeOf l) l.length 0) os' []).1.T.get i).getD default)
noncomputable def cutL (x : Str) (c : Nat) : Str := slCut x none (some (.ofNat (lastIx c x.cps.toList), 0)) ++ slCut x (some (.ofNat (lastIx c x.cps.toList) + 1, 0)) none
section
variable (w : World) (L I : Addr) (k0 : Nat) (x : Str) (t ti i c : Nat) (s : EvS) (β : Bool) (h : Heap) (g : Array GenState) (d : Drawn) (os : OsState)
noncomputable def orcV (b1 b2 b3 : Bool) : List Nat := orcG w (DZ (evC w 1000001 1000002)) encI (evHook w β) (lgV w 1000001 1000002 k0 x t ti i s) 505 5050 800 8000 g d os b1 b2 b3
noncomputable def oV (ad tk : Nat → Nat) : Obj := refG w (DZ (evC w L I)) encI (evHook w β) (lgV w L I k0 x t ti i s) 505 5050 800 8000 (orcV w k0 x t ti i s β #[] {} {} true true true) ad tk 1
noncomputable def rnV : RanT := ranT pr w 111 1 (ktA w) (lgV w L I k0 x t ti i s) 505 5050 800 8000 h g d os (evHook w β) NoE encI (DZ (evC w L I)) 20000 (orcV w k0 x t ti i s β g d os)
noncomputable def nextV (ad tk : Nat → Nat) : EvS := match β with
  | false => match s with
    | .c k1 _ _ k2 p t2 => .c k1 c (tk 0) k2 p t2
    | .b k1 _ _ => .b k1 c (tk 0)
    | .a => .b (tk 1) c (tk 0)
  | true => .c (keyTok (enAt (oV w L I k0 x t ti i s β ad tk) 1)) c (tk 0) (keyTok (enAt (oV w L I k0 x t ti i s β ad tk) 2)) (.ofNat (lastIx c x.cps.toList)) (tokOf (enAt (oV w L I k0 x t ti i s β ad tk) 2).val)
noncomputable def obV (ad tk : Nat → Nat) : List Obj := [siO sRwx ti (i + 1), match β with
  | false => evF w k0 x t (nextV w L I k0 x t ti i c s β ad tk)
  | true => evF w k0 (cutL x c) (tokOf (enAt (oV w L I k0 x t ti i s β ad tk) 0).val) (nextV w L I k0 x t ti i c s β ad tk)]
end
end Mine
end
section
open PySem PySem.W PyProof.Rows PySem.W.X Mine
set_option Elab.async false
set_option maxRecDepth 100000
set_option maxHeartbeats 0
set_option linter.unusedVariables false
namespace Mine
noncomputable def pIx (x : Str) (c : Nat) : Int := .ofNat (lastIx c x.cps.toList)
noncomputable abbrev oddC (x : Str) (c : Nat) : Bool := decide (Int.fmod (.ofNat (cntL c x.cps.toList)) 2 = 1)
noncomputable def factsV (β : Bool) (s : EvS) (x : Str) (t c : Nat) (tk : Nat → Nat) : List Prop := match β with
  | false => [oddC x c = false]
  | true => [(slCut x none (some (pIx x c, 0))).length + (slCut x (some (pIx x c + 1, 0)) none).length ≤ 1000, 1 ≤ tk 11, 1 ≤ tk 8, SlOk x t (some (pIx x c + 1, 0)) none, SlOk x t none (some (pIx x c, 0)), 1 ≤ cntL c x.cps.toList, oddC x c = true]
section
variable (w : World) (L I : Addr) (k0 : Nat) (x : Str) (t ti i c : Nat) (s : EvS) (β : Bool) (h : Heap) (g : Array GenState) (d : Drawn) (os : OsState)
noncomputable def ChkV : Prop := ∀ b1 b2 b3, tellG1 (rnV w L I k0 x t ti i s β h g d os) [0, 1] b1 b2 b3 = tellG2 (rnV w L I k0 x t ti i s β h g d os) 111 1 encI (fun _ tk => factsV β s x t c tk) (fun _ _ => .again (evC w L I)) (obV w L I k0 x t ti i c s β) b1 b2 b3
end
section
variable {w : World} {L I : Addr} {k0 : Nat} {x : Str} {t ti : Nat} {h : Heap} {g : Array GenState} {d : Drawn} {os : OsState}
theorem cv0 : ChkV w L I k0 x t ti 0 114 .a false h g d os := orc13 (by kernel_rfl)
theorem cv1 : ChkV w L I k0 x t ti 0 114 .a true h g d os := orc13 (by kernel_rfl)
theorem cv2 (k1 b t1 : Nat) : ChkV w L I k0 x t ti 1 119 (.b k1 b t1) false h g d os := orc13 (by kernel_rfl)
theorem cv3 (k1 b t1 : Nat) : ChkV w L I k0 x t ti 1 119 (.b k1 b t1) true h g d os := orc13 (by kernel_rfl)
theorem cv4 (k1 b t1 k2 : Nat) (p : Int) (t2 : Nat) : ChkV w L I k0 x t ti 1 119 (.c k1 b t1 k2 p t2) false h g d os := orc13 (by kernel_rfl)
theorem cv5 (k1 b t1 k2 : Nat) (p : Int) (t2 : Nat) : ChkV w L I k0 x t ti 1 119 (.c k1 b t1 k2 p t2) true h g d os := orc13 (by kernel_rfl)
theorem cv6 (k1 b t1 : Nat) : ChkV w L I k0 x t ti 2 120 (.b k1 b t1) false h g d os := orc13 (by kernel_rfl)
theorem cv7 (k1 b t1 : Nat) : ChkV w L I k0 x t ti 2 120 (.b k1 b t1) true h g d os := orc13 (by kernel_rfl)
theorem cv8 (k1 b t1 k2 : Nat) (p : Int) (t2 : Nat) : ChkV w L I k0 x t ti 2 120 (.c k1 b t1 k2 p t2) false h g d os := orc13 (by kernel_rfl)
theorem cv9 (k1 b t1 k2 : Nat) (p : Int) (t2 : Nat) : ChkV w L I k0 x t ti 2 120 (.c k1 b t1 k2 p t2) true h g d os := orc13 (by kernel_rfl)
end
end Mine
end
section
open PySem PySem.W PyProof.Rows PySem.W.X Mine
set_option Elab.async false
set_option maxRecDepth 100000
set_option maxHeartbeats 0
set_option linter.unusedVariables false
namespace Mine
noncomputable def dropC (c : Nat) (l : List Nat) : List Nat := l.take (lastIx c l) ++ l.drop (lastIx c l + 1)
noncomputable def evenC (c : Nat) (l : List Nat) : List Nat := if cntL c l % 2 = 1 then dropC c l else l
noncomputable def evenL (l : List Nat) : List Nat := evenC 120 (evenC 119 (evenC 114 l))
theorem odd_iff (x : Str) (c : Nat) : oddC x c = decide (cntL c x.cps.toList % 2 = 1) := by
  unfold oddC
  have e : Int.fmod (.ofNat (cntL c x.cps.toList)) 2 = ((cntL c x.cps.toList % 2 : Nat) : Int) := by
    rw [Int.fmod_eq_emod_of_nonneg _ (by decide)]
    rfl
  rw [e]
  congr 1
  exact propext ⟨fun h => by omega, fun h => by omega⟩
theorem last_lt {c : Nat} {l : List Nat} (h : 1 ≤ cntL c l) : lastIx c l < l.length := (List.getElem?_eq_some_iff.mp (lastIx_spec c l h).1).1
theorem cut_eq (x : Str) (c : Nat) (h : 1 ≤ cntL c x.cps.toList) : cutL x c = sL (dropC c x.cps.toList) := by
  have hl := last_lt h
  have e1 : slCut x none (some (.ofNat (lastIx c x.cps.toList), 0)) = sL (x.cps.toList.take (lastIx c x.cps.toList)) := by
    show cutS x (0 : Int).toNat (Int.ofNat (lastIx c x.cps.toList)).toNat = _
    unfold cutS
    rw [show (0 : Int).toNat = 0 from rfl, show (Int.ofNat (lastIx c x.cps.toList)).toNat = lastIx c x.cps.toList from rfl, List.drop_zero, Nat.sub_zero]
  have e2 : slCut x (some (.ofNat (lastIx c x.cps.toList) + 1, 0)) none = sL (x.cps.toList.drop (lastIx c x.cps.toList + 1)) := by
    show cutS x (Int.ofNat (lastIx c x.cps.toList) + 1).toNat ((x.cps.toList.length : Int)).toNat = _
    unfold cutS
    rw [show (Int.ofNat (lastIx c x.cps.toList) + 1).toNat = lastIx c x.cps.toList + 1 from rfl, Int.toNat_natCast, List.take_of_length_le (by rw [List.length_drop]; exact Nat.le_refl _)]
  unfold cutL
  rw [e1, e2]
  unfold dropC sL
  show Str.mk (⟨_⟩ ++ ⟨_⟩) = _
  simp
theorem drop_len {c : Nat} {l : List Nat} (h : 1 ≤ cntL c l) : (dropC c l).length + 1 = l.length := by
  have := last_lt h
  unfold dropC
  rw [List.length_append, List.length_take, List.length_drop]
  omega
theorem odd_pos {c : Nat} {l : List Nat} (h : cntL c l % 2 = 1) : 1 ≤ cntL c l := by omega
theorem even_len (c : Nat) (l : List Nat) : (evenC c l).length ≤ l.length := by
  unfold evenC
  split
  · rename_i h
    have := drop_len (odd_pos h)
    omega
  · exact Nat.le_refl _
theorem factsV_ok {x : Str} {c t : Nat} {s : EvS} {β : Bool} {tk : Nat → Nat} (hβ : oddC x c = β) (ht : 1 ≤ t) (hl : x.cps.toList.length ≤ 500) (hk : ∀ i, 1 ≤ tk i) : ∀ P ∈ factsV β s x t c tk, P := by
  cases β with
  | false => exact allC hβ allN
  | true =>
    have ho : cntL c x.cps.toList % 2 = 1 := by rw [odd_iff] at hβ; exact of_decide_eq_true hβ
    have h1 := odd_pos ho
    have hlt := last_lt h1
    have s1 : SlOk x t (some (pIx x c + 1, 0)) none := by
      refine ⟨ht, ?_, ?_, ?_, by omega⟩
      · show 0 ≤ Int.ofNat (lastIx c x.cps.toList) + 1
        have : (0 : Int) ≤ Int.ofNat (lastIx c x.cps.toList) := Int.natCast_nonneg _
        omega
      · show Int.ofNat (lastIx c x.cps.toList) + 1 ≤ (x.cps.toList.length : Int)
        have e : (Int.ofNat (lastIx c x.cps.toList)) = ((lastIx c x.cps.toList : Nat) : Int) := rfl
        rw [e]
        omega
      · exact Int.le_refl _
    have s2 : SlOk x t none (some (pIx x c, 0)) := by
      have e : (Int.ofNat (lastIx c x.cps.toList)) = ((lastIx c x.cps.toList : Nat) : Int) := rfl
      refine ⟨ht, Int.le_refl _, ?_, ?_, by omega⟩
      · show (0 : Int) ≤ Int.ofNat (lastIx c x.cps.toList)
        rw [e]; omega
      · show Int.ofNat (lastIx c x.cps.toList) ≤ (x.cps.toList.length : Int)
        rw [e]; omega
    have l1 := cut_len x (Int.toNat 0) (Int.ofNat (lastIx c x.cps.toList)).toNat
    have l2 := cut_len x (Int.ofNat (lastIx c x.cps.toList) + 1).toNat ((x.cps.toList.length : Int)).toNat
    have hsum : (slCut x none (some (pIx x c, 0))).length + (slCut x (some (pIx x c + 1, 0)) none).length ≤ 1000 := by
      have a1 : (slCut x none (some (pIx x c, 0))).length ≤ x.cps.toList.length := l1
      have a2 : (slCut x (some (pIx x c + 1, 0)) none).length ≤ x.cps.toList.length := l2
      omega
    exact allC hsum (allC (hk 11) (allC (hk 8) (allC s1 (allC s2 (allC h1 (allC hβ allN))))))
section
variable {w : World} {L I : Addr} {k0 ti : Nat} {xs : List Addr} {h₀ : Heap} {g : Array GenState} {d : Drawn} {os : OsState} {R : Result → Shared → Prop}
noncomputable def EvOk : EvS → Prop
  | .a => True
  | .b k1 _ t1 => 1 ≤ k1 ∧ 1 ≤ t1
  | .c k1 _ t1 k2 _ t2 => 1 ≤ k1 ∧ 1 ≤ t1
noncomputable def EvAt (c : Nat) : EvS → Prop
  | .a => False
  | .b k1 b t1 => b = c ∧ 1 ≤ k1 ∧ 1 ≤ t1
  | .c k1 b t1 k2 p t2 => b = c ∧ 1 ≤ k1 ∧ 1 ≤ t1
theorem ev_turn {x : Str} {t i c : Nat} {s : EvS} {h : Heap} {t0 : Nat} (hs : EvOk s) (H : ∀ β, ChkV w L I k0 x t ti i c s β h g d os)
    (hk : ∀ β ad tk, (∀ i, 1 ≤ tk i) → EvAt c (nextV w L I k0 x t ti i c s β ad tk) ∧ 1 ≤ tokOf (enAt (oV w L I k0 x t ti i s true ad tk) 0).val)
    (hl : x.cps.toList.length ≤ 500) (htx : 1 ≤ t) (D : Lg xs h₀ h (lgV w L I k0 x t ti i s)) (hT : TopOf (ktA w) h) (hn : 111 ≤ h₀.objs.size) (hx : ∀ a ∈ xs, (ktA w).get a = none) (ht : 1 ≤ t0)
    (hq : ∀ h' t' s' tn, 1 ≤ tn → EvAt c s' → Lg xs h₀ h' (lgV w L I k0 (sL (evenC c x.cps.toList)) tn ti (i + 1) s') → TopOf (ktA w) h' → 1 ≤ t' → codeAny (model pr w) (An 505 5050) (evC w L I) R ⟨h', g, d, t', os⟩) :
    codeAny (model pr w) (An 505 5050) (evC w L I) R ⟨h, g, d, t0, os⟩ := by
  refine loop_turn rfl ?_
  cases hβ : oddC x c with
  | false =>
    have e : evenC c x.cps.toList = x.cps.toList := by
      unfold evenC
      rw [odd_iff] at hβ
      rw [if_neg (of_decide_eq_false hβ)]
    refine led_goH encI 20000 (orcV w k0 x t ti i s false g d os) [0, 1] (fun _ tk => factsV false s x t c tk) (fun _ tk hk => factsV_ok hβ htx hl hk) (fun _ _ => .again (evC w L I)) (obV w L I k0 x t ti i c s false) D hT hn (ktA_bound w) hx ht encI_inj (ev_hook w false) (by cases s <;> kernel_rfl) (by decide) (H false) fun h' t' ad tk had htk D' hT' ht' => ?_
    refine ⟨rfl, hq h' t' (nextV w L I k0 x t ti i c s false ad tk) t htx (hk false ad tk htk).1 ?_ hT' ht'⟩
    rw [e]
    exact D'
  | true =>
    have ho : cntL c x.cps.toList % 2 = 1 := by rw [odd_iff] at hβ; exact of_decide_eq_true hβ
    have e : sL (evenC c x.cps.toList) = cutL x c := by
      unfold evenC
      rw [if_pos ho, cut_eq x c (odd_pos ho)]
    refine led_goH encI 20000 (orcV w k0 x t ti i s true g d os) [0, 1] (fun _ tk => factsV true s x t c tk) (fun _ tk hk => factsV_ok hβ htx hl hk) (fun _ _ => .again (evC w L I)) (obV w L I k0 x t ti i c s true) D hT hn (ktA_bound w) hx ht encI_inj (ev_hook w true) (by cases s <;> kernel_rfl) (by decide) (H true) fun h' t' ad tk had htk D' hT' ht' => ?_
    refine ⟨rfl, hq h' t' (nextV w L I k0 x t ti i c s true ad tk) _ (hk true ad tk htk).2 (hk true ad tk htk).1 ?_ hT' ht'⟩
    rw [e]
    exact D'
end
end Mine
end
section
open PySem PySem.W PyProof.Rows PySem.W.X Mine
set_option Elab.async false
set_option maxRecDepth 100000
set_option maxHeartbeats 0
set_option linter.unusedVariables false
namespace Mine
section
variable {w : World} {L I : Addr} {k0 : Nat} {x : Str} {t ti : Nat} {ad tk : Nat → Nat}
theorem ov0 : (keyTok (enAt (oV w L I k0 x t ti 0 .a true ad tk) 1), tokOf (enAt (oV w L I k0 x t ti 0 .a true ad tk) 0).val) = (tk 1, tk 12) := by kernel_rfl
theorem ov1 (k1 b t1 : Nat) : (keyTok (enAt (oV w L I k0 x t ti 1 (.b k1 b t1) true ad tk) 1), tokOf (enAt (oV w L I k0 x t ti 1 (.b k1 b t1) true ad tk) 0).val) = (k1, tk 12) := by kernel_rfl
theorem ov2 (k1 b t1 k2 : Nat) (p : Int) (t2 : Nat) : (keyTok (enAt (oV w L I k0 x t ti 1 (.c k1 b t1 k2 p t2) true ad tk) 1), tokOf (enAt (oV w L I k0 x t ti 1 (.c k1 b t1 k2 p t2) true ad tk) 0).val) = (k1, tk 12) := by kernel_rfl
theorem ov3 (k1 b t1 : Nat) : (keyTok (enAt (oV w L I k0 x t ti 2 (.b k1 b t1) true ad tk) 1), tokOf (enAt (oV w L I k0 x t ti 2 (.b k1 b t1) true ad tk) 0).val) = (k1, tk 12) := by kernel_rfl
theorem ov4 (k1 b t1 k2 : Nat) (p : Int) (t2 : Nat) : (keyTok (enAt (oV w L I k0 x t ti 2 (.c k1 b t1 k2 p t2) true ad tk) 1), tokOf (enAt (oV w L I k0 x t ti 2 (.c k1 b t1 k2 p t2) true ad tk) 0).val) = (k1, tk 12) := by kernel_rfl
theorem pair_eq {a b c d : Nat} (h : (a, b) = (c, d)) : a = c ∧ b = d := by cases h; exact ⟨rfl, rfl⟩
theorem hk_a {c : Nat} (hk : ∀ i, 1 ≤ tk i) (β : Bool) : EvAt c (nextV w L I k0 x t ti 0 c .a β ad tk) ∧ 1 ≤ tokOf (enAt (oV w L I k0 x t ti 0 .a true ad tk) 0).val := by
  obtain ⟨e1, e2⟩ := pair_eq (ov0 (w := w) (L := L) (I := I) (k0 := k0) (x := x) (t := t) (ti := ti) (ad := ad) (tk := tk))
  rw [e2]
  cases β with
  | false => exact ⟨⟨rfl, hk 1, hk 0⟩, hk 12⟩
  | true => exact ⟨⟨rfl, by rw [e1]; exact hk 1, hk 0⟩, hk 12⟩
theorem hk_of {i c : Nat} {s : EvS} (hs : match s with | .a => False | .b k1 _ _ => 1 ≤ k1 | .c k1 _ _ _ _ _ => 1 ≤ k1)
    (he : (keyTok (enAt (oV w L I k0 x t ti i s true ad tk) 1), tokOf (enAt (oV w L I k0 x t ti i s true ad tk) 0).val) = ((match s with | .a => 0 | .b k1 _ _ => k1 | .c k1 _ _ _ _ _ => k1), tk 12)) (hk : ∀ i, 1 ≤ tk i) (β : Bool) :
    EvAt c (nextV w L I k0 x t ti i c s β ad tk) ∧ 1 ≤ tokOf (enAt (oV w L I k0 x t ti i s true ad tk) 0).val := by
  obtain ⟨e1, e2⟩ := pair_eq he
  rw [e2]
  cases s with
  | a => exact hs.elim
  | b k1 b t1 =>
    cases β with
    | false => exact ⟨⟨rfl, hs, hk 0⟩, hk 12⟩
    | true => exact ⟨⟨rfl, by rw [e1]; exact hs, hk 0⟩, hk 12⟩
  | c k1 b t1 k2 p t2 =>
    cases β with
    | false => exact ⟨⟨rfl, hs, hk 0⟩, hk 12⟩
    | true => exact ⟨⟨rfl, by rw [e1]; exact hs, hk 0⟩, hk 12⟩
end
section
variable {w : World} {L I : Addr} {k0 ti : Nat} {xs : List Addr} {h₀ : Heap} {g : Array GenState} {d : Drawn} {os : OsState} {R : Result → Shared → Prop}
noncomputable def orcVE (w : World) (k0 : Nat) (x : Str) (t ti : Nat) (s : EvS) (g : Array GenState) (d : Drawn) (os : OsState) (b1 b2 b3 : Bool) : List Nat := orcG w (DZ (evC w 1000001 1000002)) encI (fun _ => none) (lgV w 1000001 1000002 k0 x t ti 3 s) 505 5050 0 0 g d os b1 b2 b3
theorem ev_end {x : Str} {t : Nat} {s : EvS} {h : Heap} {t0 : Nat} (D : Lg xs h₀ h (lgV w L I k0 x t ti 3 s)) (hT : TopOf (ktA w) h) (hn : 111 ≤ h₀.objs.size) (hx : ∀ a ∈ xs, (ktA w).get a = none) (ht : 1 ≤ t0)
    (hq : ∀ h' t', Lg xs h₀ h' [(I, siE 3), (L, evF w k0 x t s)] → 1 ≤ t' → R (.ok .next) ⟨h', g, d, t', os⟩) : codeAny (model pr w) (An 505 5050) (evC w L I) R ⟨h, g, d, t0, os⟩ := by
  refine loop_turn rfl ?_
  cases s with
  | a => exact led_goG (dm := 0) (um := 0) encI 20000 (orcVE w k0 x t ti .a g d os) [0, 1] (fun _ _ => []) (fun _ _ => allN) (fun _ _ => .again (.block [] (evE w L))) (fun _ _ => [siE 3, evF w k0 x t .a]) D hT hn (ktA_bound w) hx ht encI_inj HookS.none (by kernel_rfl) (by decide) (orc13 (by kernel_rfl)) fun h' t' ad tk had htk D' hT' ht' => ⟨rfl, codeAny_block (wpAny_execs_nil (hq h' t' D' ht'))⟩
  | b k1 c t1 => exact led_goG (dm := 0) (um := 0) encI 20000 (orcVE w k0 x t ti (.b k1 c t1) g d os) [0, 1] (fun _ _ => []) (fun _ _ => allN) (fun _ _ => .again (.block [] (evE w L))) (fun _ _ => [siE 3, evF w k0 x t (.b k1 c t1)]) D hT hn (ktA_bound w) hx ht encI_inj HookS.none (by kernel_rfl) (by decide) (orc13 (by kernel_rfl)) fun h' t' ad tk had htk D' hT' ht' => ⟨rfl, codeAny_block (wpAny_execs_nil (hq h' t' D' ht'))⟩
  | c k1 c t1 k2 p t2 => exact led_goG (dm := 0) (um := 0) encI 20000 (orcVE w k0 x t ti (.c k1 c t1 k2 p t2) g d os) [0, 1] (fun _ _ => []) (fun _ _ => allN) (fun _ _ => .again (.block [] (evE w L))) (fun _ _ => [siE 3, evF w k0 x t (.c k1 c t1 k2 p t2)]) D hT hn (ktA_bound w) hx ht encI_inj HookS.none (by kernel_rfl) (by decide) (orc13 (by kernel_rfl)) fun h' t' ad tk had htk D' hT' ht' => ⟨rfl, codeAny_block (wpAny_execs_nil (hq h' t' D' ht'))⟩
theorem ev_loop {x : Str} {t : Nat} {h : Heap} {t0 : Nat} (hl : x.cps.toList.length ≤ 500) (htx : 1 ≤ t) (D : Lg xs h₀ h (lgV w L I k0 x t ti 0 .a)) (hT : TopOf (ktA w) h) (hn : 111 ≤ h₀.objs.size) (hx : ∀ a ∈ xs, (ktA w).get a = none) (ht : 1 ≤ t0)
    (hq : ∀ h' t' s' tn, 1 ≤ tn → EvAt 120 s' → Lg xs h₀ h' [(I, siE 3), (L, evF w k0 (sL (evenL x.cps.toList)) tn s')] → 1 ≤ t' → R (.ok .next) ⟨h', g, d, t', os⟩) : codeAny (model pr w) (An 505 5050) (evC w L I) R ⟨h, g, d, t0, os⟩ := by
  have el : ∀ (c : Nat) (l : List Nat), (sL l).cps.toList = l := fun _ _ => rfl
  refine ev_turn (c := 114) (s := .a) trivial (fun | false => cv0 | true => cv1) (fun β ad tk hk => hk_a hk β) hl htx D hT hn hx ht fun h1 t1 s1 tn1 htn1 hs1 D1 hT1 ht1 => ?_
  have l1 := Nat.le_trans (even_len 114 x.cps.toList) hl
  have step2 : ∀ (s2 : EvS) (tn2 : Nat) (h2 : Heap) (t2 : Nat), 1 ≤ tn2 → EvAt 119 s2 → Lg xs h₀ h2 (lgV w L I k0 (sL (evenC 119 (evenC 114 x.cps.toList))) tn2 ti 2 s2) → TopOf (ktA w) h2 → 1 ≤ t2 → codeAny (model pr w) (An 505 5050) (evC w L I) R ⟨h2, g, d, t2, os⟩ := fun s2 tn2 h2 t2 htn2 hs2 D2 hT2 ht2 => by
    have l2 := Nat.le_trans (even_len 119 (evenC 114 x.cps.toList)) l1
    cases s2 with
    | a => exact hs2.elim
    | b k1 b t1 =>
      exact ev_turn (c := 120) (s := .b k1 b t1) ⟨hs2.2.1, hs2.2.2⟩ (fun | false => cv6 k1 b t1 | true => cv7 k1 b t1) (fun β ad tk hk => hk_of hs2.2.1 (ov3 k1 b t1) hk β) l2 htn2 D2 hT2 hn hx ht2 fun h3 t3 s3 tn3 htn3 hs3 D3 hT3 ht3 => ev_end D3 hT3 hn hx ht3 fun h4 t4 D4 ht4 => hq h4 t4 s3 tn3 htn3 hs3 D4 ht4
    | c k1 b t1 k2 p t2 =>
      exact ev_turn (c := 120) (s := .c k1 b t1 k2 p t2) ⟨hs2.2.1, hs2.2.2⟩ (fun | false => cv8 k1 b t1 k2 p t2 | true => cv9 k1 b t1 k2 p t2) (fun β ad tk hk => hk_of hs2.2.1 (ov4 k1 b t1 k2 p t2) hk β) l2 htn2 D2 hT2 hn hx ht2 fun h3 t3 s3 tn3 htn3 hs3 D3 hT3 ht3 => ev_end D3 hT3 hn hx ht3 fun h4 t4 D4 ht4 => hq h4 t4 s3 tn3 htn3 hs3 D4 ht4
  cases s1 with
  | a => exact hs1.elim
  | b k1 b t1' =>
    exact ev_turn (c := 119) (s := .b k1 b t1') ⟨hs1.2.1, hs1.2.2⟩ (fun | false => cv2 k1 b t1' | true => cv3 k1 b t1') (fun β ad tk hk => hk_of hs1.2.1 (ov1 k1 b t1') hk β) l1 htn1 D1 hT1 hn hx ht1 fun h2 t2 s2 tn2 htn2 hs2 D2 hT2 ht2 => step2 s2 tn2 h2 t2 htn2 hs2 D2 hT2 ht2
  | c k1 b t1' k2 p t2' =>
    exact ev_turn (c := 119) (s := .c k1 b t1' k2 p t2') ⟨hs1.2.1, hs1.2.2⟩ (fun | false => cv4 k1 b t1' k2 p t2' | true => cv5 k1 b t1' k2 p t2') (fun β ad tk hk => hk_of hs1.2.1 (ov2 k1 b t1' k2 p t2') hk β) l1 htn1 D1 hT1 hn hx ht1 fun h2 t2 s2 tn2 htn2 hs2 D2 hT2 ht2 => step2 s2 tn2 h2 t2 htn2 hs2 D2 hT2 ht2
end
end Mine
end
section
open PySem PySem.W PyProof.Rows PySem.W.X Mine
set_option Elab.async false
set_option maxRecDepth 100000
set_option maxHeartbeats 0
set_option linter.unusedVariables false
namespace Mine
noncomputable def restV (w : World) (tv : List Nat) : List DictEntry := if tv.getD 3 0 = 1 then [] else [rEnt w "place" (tv.getD 4 0 - 1) (.int ((tv.getD 5 0 : Int) - (tv.getD 6 0 : Int)) (tv.getD 7 0 - 1))]
noncomputable def numV (tv : List Nat) : Nat := if tv.getD 3 0 = 1 then 2 else 3
noncomputable def evG (w : World) (k0 : Nat) (l : List Nat) (tv : List Nat) : Obj := { cls := .type "frame", data := .dict ⟨rEnt w "beads" k0 (.str (sL l) (tv.getD 0 0)) :: rEnt w "sign" (tv.getD 1 0) (.str ⟨#[120]⟩ (tv.getD 2 0)) :: restV w tv⟩ (numV tv) }
noncomputable def hkEv (w : World) (k0 : Nat) (x : Str) : Hk := { nt := 8, nn := 0, res := fun _ _ => .ok .next, news := fun _ _ => [], upd := fun tv _ => [siE 3, evG w k0 (evenL x.cps.toList) tv] }
theorem evl_spec (w : World) (L I : Addr) (k0 : Nat) (x : Str) (t ti : Nat) (hl : x.cps.toList.length ≤ 500) (htx : 1 ≤ t) : SpecC pr w (ktA w) 111 1 505 5050 (evC w L I) [I, L] [siO sRwx ti 0, evF w k0 x t .a] (hkEv w k0 x) := by
  intro A h g d t0 os a1 a2 a3 hT hn ht hg hlo _ hnd hf
  show codeAny (model pr w) A _ (PostC (hkEv w k0 x) [I, L] h g d os) _
  refine code_An (d := 505) (u := 5050) a1 a2 a3 ?_
  have L0 := Lg.ofSpec (needs := [I, L]) (objs := [siO sRwx ti 0, evF w k0 x t .a]) hg hlo hnd
  refine ev_loop (xs := [I, L]) (h₀ := h) hl htx L0 hT hn hf ht fun h' t' s' tn htn hs D ht' => ?_
  have fin : ∀ tv : List Nat, tv.length = 8 → (∀ a ∈ tv, 1 ≤ a) → evF w k0 (sL (evenL x.cps.toList)) tn s' = evG w k0 (evenL x.cps.toList) tv → PostC (hkEv w k0 x) [I, L] h g d os (.ok .next) ⟨h', g, d, t', os⟩ := fun tv h8 h1 e => by
    rw [e] at D
    have z := Lg.afterU (R := []) (l := [(I, siO sRwx ti 0), (L, evF w k0 x t .a)]) (hd := [(I, siE 3), (L, evG w k0 (evenL x.cps.toList) tv)]) (by rw [List.append_nil]; exact L0) (by rw [List.append_nil]; exact D) rfl
    exact ⟨h', t', tv, [], rfl, ht', h8, rfl, h1, rfl, z⟩
  cases s' with
  | a => exact hs.elim
  | b k1 c t1 =>
    obtain ⟨rfl, h1, h2⟩ := hs
    exact fin [tn, k1, t1, 1, 1, 1, 1, 1] rfl (geC htn (geC h1 (geC h2 (geC (geS 0) (geC (geS 0) (geC (geS 0) (geC (geS 0) (geC (geS 0) geN)))))))) rfl
  | c k1 c t1 k2 p t2 =>
    obtain ⟨rfl, h1, h2⟩ := hs
    refine fin [tn, k1, t1, 2, k2 + 1, p.toNat + 1, (-p).toNat + 1, t2 + 1] rfl (geC htn (geC h1 (geC h2 (geC (geS 1) (geC (geS _) (geC (geS _) (geC (geS _) (geC (geS _) geN)))))))) ?_
    · have e : (((p.toNat + 1 : Nat) : Int) - (((-p).toNat + 1 : Nat) : Int)) = p := by
        show ((p.toNat : Int) + 1) - (((-p).toNat : Int) + 1) = p
        rw [Int.add_sub_add_right]
        exact Int.toNat_sub_toNat_neg p
      show _ = evG w k0 (evenL x.cps.toList) _
      unfold evG restV
      show _ = ({ cls := .type "frame", data := .dict ⟨rEnt w "beads" k0 (.str (sL (evenL x.cps.toList)) tn) :: rEnt w "sign" k1 (.str ⟨#[120]⟩ t1) :: [rEnt w "place" (k2 + 1 - 1) (.int (((p.toNat + 1 : Nat) : Int) - (((-p).toNat + 1 : Nat) : Int)) (t2 + 1 - 1))]⟩ 3 } : Obj)
      rw [e]
      rfl
noncomputable def evlG (w : World) (c : Code) : GH :=
  { needs := [flI c, (flE c).locals], code := fun _ => evC w (flE c).locals (flI c),
    props := fun l => [(strOf (enAt (oAt l 1) 0).val).cps.toList.length ≤ 500, 1 ≤ tokOf (enAt (oAt l 1) 0).val],
    objs := fun l => [siO sRwx (siT (oAt l 0)) 0, evF w (keyTok (enAt (oAt l 1) 0)) (strOf (enAt (oAt l 1) 0).val) (tokOf (enAt (oAt l 1) 0).val) .a],
    hk := fun l => strictS (enAt (oAt l 1) 0).key fun _ k0 => strictS (enAt (oAt l 1) 0).val fun x _ => hkEv w k0 x }
noncomputable def evlHook (w : World) : Code → Option Hr := cHook (isFl 98) (evlG w)
theorem evl_hook (w : World) : HookS pr w (ktA w) 111 1 505 5050 (evlHook w) := cHook_n 2 (fun _ _ => rfl) fun c f hp => by
  have eh : (evlG w c).hk ((List.range 2).map f) = hkEv w (keyTok (enAt (f 1) 0)) (strOf (enAt (f 1) 0).val) := by
    show (strictS (enAt (f 1) 0).key fun _ k0 => strictS (enAt (f 1) 0).val fun x _ => hkEv w k0 x) = _
    rw [strictS_eq, strictS_eq]
    rfl
  show SpecC _ _ _ _ _ _ _ _ _ _ { (evlG w c).hk ((List.range 2).map f) with eqs := [] }
  rw [eh]
  exact evl_spec w _ _ _ _ _ _ (hp _ (.head _)) (hp _ (.tail _ (.head _)))
end Mine
end
section
open PySem PySem.W PyProof.Rows PySem.W.X Mine
set_option Elab.async false
set_option maxRecDepth 100000
set_option maxHeartbeats 0
set_option linter.unusedVariables false
namespace Mine
theorem mul_spec (w : World) (a b : Int) (ta tb : Nat) (h : IntMulOk a b) : SpecC pr w (ktA w) 111 1 800 8000 (.builtin "int.__mul__" ⟨[.int a ta, .int b tb], []⟩) [] [] (hkInt (a * b)) :=
  gives_spec PySem.F.entry_int_mul (by decide +kernel) (gives_int_mul a b ta tb h)
noncomputable def mulG' (x : Int) (t : Nat) (y : Int) (u : Nat) : GH :=
  { needs := [], code := fun _ => .builtin "" ⟨[.int x t, .int y u], []⟩, props := fun _ => [IntMulOk x y], objs := fun _ => [], hk := fun _ => hkInt (x * y) }
noncomputable def mulG (a : Args) : GH := strictI (pA a 0) fun x t => strictI (pA a 1) fun y u => mulG' x t y u
noncomputable def mulHook : Code → Option Hr := bHook 116512245094328231196454762 (two isInt) mulG
theorem mul_hook (w : World) : HookS pr w (ktA w) 111 1 800 8000 mulHook := by
  unfold mulHook
  rw [show mulG = fun a => mulG' (intOf (pA a 0)) (tokOf (pA a 0)) (intOf (pA a 1)) (tokOf (pA a 1)) from funext fun a => (strictI_eq _ _).trans (strictI_eq _ _)]
  exact bHook_n (name := "int.__mul__") (by decide +kernel) 0 (fun _ _ => rfl) fun a _ hp => mul_spec w _ _ _ _ (hp _ (.head _))
noncomputable def sgHook (w : World) : Code → Option Hr := orHook smulHook (orHook saddHook (orHook pbHook (orHook powHook (orHook mulHook modHook))))
theorem sg_hook (w : World) : HookS pr w (ktA w) 111 1 800 8000 (sgHook w) := (smul_hook w).or ((sadd_hook w).or ((pb_hook w).or ((pow_hook w).or ((mul_hook w).or (mod_hook w)))))
end Mine
end
section
open PySem PySem.W PyProof.Rows PySem.W.X Mine
set_option Elab.async false
set_option maxRecDepth 100000
set_option maxHeartbeats 0
set_option linter.unusedVariables false
namespace Mine
noncomputable def sgOrc : List Nat := [0, 0, 1, 1, 0, 1, 1, 3, 3, 3, 5, 5, 5, 5, 5, 3, 5, 5, 1, 1, 1, 1, 1, 1, 1, 1, 1, 1, 1, 1, 1, 1, 1, 1, 1, 5, 5, 5, 5, 3, 5, 5, 1, 1, 1, 1, 1, 1, 1, 1, 1, 1, 1, 1, 1, 1, 1, 1, 1, 5, 5, 5, 5, 3, 5, 5, 1, 1, 1, 1, 1, 1, 1, 1, 1, 1, 1, 1, 1, 1, 1, 1, 1, 5, 5, 5, 5, 3, 5, 5, 9, 1]
noncomputable abbrev s114 : Str := ⟨#[114]⟩
noncomputable abbrev s119 : Str := ⟨#[119]⟩
noncomputable abbrev s120 : Str := ⟨#[120]⟩
noncomputable def th (x : Int) (k : Nat) : Int := Int.fmod (Z.divQ x (.ofNat (8 ^ k))) 8
noncomputable def sgA (x : Int) (k : Nat) : Int := Z.divQ (th x k) 4
noncomputable def sgB (x : Int) (k : Nat) : Int := Int.fmod (Z.divQ (th x k) 2) 2
noncomputable def sgH (x : Int) (k : Nat) : Int := 1 - Int.fmod (Z.divQ x (.ofNat (2 ^ (9 + k)))) 2
noncomputable def sgC (x : Int) (k : Nat) : Int := Int.fmod (th x k) 2 * sgH x k
noncomputable def sgP (x : Int) (k : Nat) : Str := mulS s114 (sgA x k) ++ mulS s119 (sgB x k)
noncomputable def sg1 (s : Str) (x : Int) (k : Nat) : Str := (s ++ sgP x k) ++ mulS s120 (sgC x k)
noncomputable def sgS (x : Int) : Str := sg1 (sg1 (sg1 ⟨#[]⟩ x 2) x 1) x 0
noncomputable def facts1 (s : Str) (x : Int) (k b p : Nat) (tk : Nat → Nat) : List Prop :=
  [(s ++ sgP x k).length + (mulS s120 (sgC x k)).length ≤ 1000, 1 ≤ tk (b + 39) + 1, 1 ≤ tk (b + 24) + 1, s120.length ≤ 1000, sgC x k = 0 ∨ sgC x k = 1, 1 ≤ tk (b + 26) + 1, IntMulOk (Int.fmod (th x k) 2) (sgH x k),
    s.length + (sgP x k).length ≤ 1000, 1 ≤ tk (b + 23) + 1, 1 ≤ tk p + 1, (mulS s114 (sgA x k)).length + (mulS s119 (sgB x k)).length ≤ 1000, 1 ≤ tk (b + 22) + 1, 1 ≤ tk (b + 16) + 1, s119.length ≤ 1000, sgB x k = 0 ∨ sgB x k = 1, 1 ≤ tk (b + 17) + 1, s114.length ≤ 1000, sgA x k = 0 ∨ sgA x k = 1, 1 ≤ tk (b + 13) + 1]
noncomputable def factsS (x : Int) (tk : Nat → Nat) : List Prop := facts1 (sg1 (sg1 ⟨#[]⟩ x 2) x 1) x 0 72 76 tk ++ (facts1 (sg1 ⟨#[]⟩ x 2) x 1 36 40 tk ++ facts1 ⟨#[]⟩ x 2 0 1 tk)
noncomputable def ChkS (w : World) (x : Int) (t : Nat) : Prop := ∀ b1 b2 b3, tellCF1 (ranC pr w 111 1 (ktA w) (([] : List Addr).zip []) 500 5000 800 8000 (sgHook w) (.call (.ref 91) ⟨[.int x t], []⟩) 20000 (fun _ _ _ => sgOrc)) 0 [] b1 b2 b3 = tellCF2 (ranC pr w 111 1 (ktA w) (([] : List Addr).zip []) 500 5000 800 8000 (sgHook w) (.call (.ref 91) ⟨[.int x t], []⟩) 20000 (fun _ _ _ => sgOrc)) (([] : List Addr).zip []) 111 1 (hkStr (sgS x)) [] [112] (fun _ _ tk => factsS x tk) b1 b2 b3
theorem chkS (w : World) (x : Int) (t : Nat) : ChkS w x t := orc13 (by kernel_rfl)
end Mine
end
section
open PySem PySem.W PyProof.Rows PySem.W.X Mine
set_option Elab.async false
set_option maxRecDepth 100000
set_option maxHeartbeats 0
set_option linter.unusedVariables false
namespace Mine
theorem fm2 (y : Int) : Int.fmod y 2 = 0 ∨ Int.fmod y 2 = 1 := by
  have h1 : 0 ≤ y.fmod 2 := Int.fmod_nonneg_of_pos _ (by decide)
  have h2 : y.fmod 2 < 2 := Int.fmod_lt_of_pos _ (by decide)
  omega
theorem th_in (x : Int) (k : Nat) : 0 ≤ th x k ∧ th x k < 8 := ⟨Int.fmod_nonneg_of_pos _ (by decide), Int.fmod_lt_of_pos _ (by decide)⟩
theorem sgA_in (x : Int) (k : Nat) : sgA x k = 0 ∨ sgA x k = 1 := by
  obtain ⟨h1, h2⟩ := th_in x k
  unfold sgA
  rw [← Z.divQ_eq, Int.fdiv_eq_ediv_of_nonneg _ (by decide)]
  omega
theorem sgB_in (x : Int) (k : Nat) : sgB x k = 0 ∨ sgB x k = 1 := fm2 _
theorem sgH_in (x : Int) (k : Nat) : sgH x k = 0 ∨ sgH x k = 1 := by
  unfold sgH
  rcases fm2 (Z.divQ x (.ofNat (2 ^ (9 + k)))) with q | q <;> rw [q]
  · exact .inr rfl
  · exact .inl rfl
theorem sgC_in (x : Int) (k : Nat) : sgC x k = 0 ∨ sgC x k = 1 := by
  unfold sgC
  rcases fm2 (th x k) with q | q <;> rw [q]
  · exact .inl (Int.zero_mul _)
  · rw [Int.one_mul]; exact sgH_in x k
theorem mulS_len (s : Str) (n : Int) : (mulS s n).length ≤ s.length := by
  show (if n = 1 then s.cps else #[]).size ≤ s.cps.size
  split
  · exact Nat.le_refl _
  · exact Nat.zero_le _
theorem app_len (a b : Str) : (a ++ b).length = a.length + b.length := by
  show (a.cps ++ b.cps).size = _
  rw [Array.size_append]
  rfl
theorem sgP_len (x : Int) (k : Nat) : (sgP x k).length ≤ 2 := by
  unfold sgP
  rw [app_len]
  exact Nat.add_le_add (mulS_len s114 _) (mulS_len s119 _)
theorem sg1_len (s : Str) (x : Int) (k : Nat) : (sg1 s x k).length ≤ s.length + 3 := by
  unfold sg1
  rw [app_len, app_len]
  have := sgP_len x k
  have h2 : (mulS s120 (sgC x k)).length ≤ 1 := mulS_len s120 _
  omega
theorem mulOk_bit {a b : Int} (h : a = 0 ∨ a = 1) : IntMulOk a b := IntMulOk.of_left (by
  rcases h with rfl | rfl <;> decide +kernel)
theorem facts1_ok {s : Str} {x : Int} {k b p : Nat} {tk : Nat → Nat} (hs : s.length ≤ 9) : ∀ P ∈ facts1 s x k b p tk, P := by
  have l1 := sgP_len x k
  have l2 : (mulS s120 (sgC x k)).length ≤ 1 := mulS_len s120 _
  have l3 : (mulS s114 (sgA x k)).length ≤ 1 := mulS_len s114 _
  have l4 : (mulS s119 (sgB x k)).length ≤ 1 := mulS_len s119 _
  have one : ∀ n : Nat, 1 ≤ n + 1 := fun n => Nat.le_add_left 1 n
  have e := app_len s (sgP x k)
  exact allC (by omega) (allC (one _) (allC (one _) (allC (by decide) (allC (sgC_in x k) (allC (one _) (allC (mulOk_bit (fm2 _)) (allC (by omega) (allC (one _) (allC (one _) (allC (by omega) (allC (one _) (allC (one _) (allC (by decide) (allC (sgB_in x k) (allC (one _) (allC (by decide) (allC (sgA_in x k) (allC (one _) allN))))))))))))))))))
theorem factsS_ok (x : Int) (tk : Nat → Nat) : ∀ P ∈ factsS x tk, P := by
  have l1 := sg1_len ⟨#[]⟩ x 2
  have l2 := sg1_len (sg1 ⟨#[]⟩ x 2) x 1
  have z : (⟨#[]⟩ : Str).length = 0 := rfl
  intro P hP
  rcases List.mem_append.mp hP with h | h
  · exact facts1_ok (by omega) P h
  · rcases List.mem_append.mp h with h | h
    · exact facts1_ok (by omega) P h
    · exact facts1_ok (by omega) P h
theorem signs_spec (w : World) (x : Int) (t : Nat) : SpecC pr w (ktA w) 111 1 500 5000 (.call (.ref 91) ⟨[.int x t], []⟩) [] [] (hkStr (sgS x)) :=
  spec_runF (dmh := 800) (umh := 8000) (hook := sgHook w) 20000 (fun _ _ _ => sgOrc) [] [112] (fun _ _ tk => factsS x tk) (ktA_bound w) (sg_hook w) rfl rfl (fun _ _ => rfl) rfl rfl List.nodup_nil (chkS w x t) fun _ _ tk => factsS_ok x tk
noncomputable def signsG (c : Code) : GH := strictI (pA (cA c) 0) fun x t => { needs := [], code := fun _ => .call (.ref 91) ⟨[.int x t], []⟩, objs := fun _ => [], hk := fun _ => hkStr (sgS x) }
noncomputable def signsHook : Code → Option Hr := cHook (callAt 91 isInt) signsG
theorem signs_hook (w : World) : HookS pr w (ktA w) 111 1 500 5000 signsHook := by
  unfold signsHook
  rw [show signsG = fun c => { needs := [], code := fun _ => .call (.ref 91) ⟨[.int (intOf (pA (cA c) 0)) (tokOf (pA (cA c) 0))], []⟩, objs := fun _ => [], hk := fun _ => hkStr (sgS (intOf (pA (cA c) 0))) } from funext fun c => strictI_eq _ _]
  exact cHook_n 0 (fun _ _ => rfl) fun c f _ => signs_spec w _ _
end Mine
end
section
open PySem PySem.W PyProof.Rows PySem.W.X Mine
set_option Elab.async false
set_option maxRecDepth 100000
set_option maxHeartbeats 0
set_option linter.unusedVariables false
namespace Mine
noncomputable def hHook (w : World) : Code → Option Hr := orHook takeHook (orHook lenHook (orHook fmHook (orHook sliceHook (orHook sjoinHook (orHook siterHook (orHook (filtHook w) (orHook (evlHook w) (orHook (rdlHook w) (orHook signsHook (orHook powHook (modHook)))))))))))
theorem h_hook (w : World) : HookS pr w (ktA w) 111 1 430 4300 (hHook w) := (((take_hook w).le (by decide) (by decide)).or (((len_hook w).le (by decide) (by decide)).or (((fm_hook w).le (by decide) (by decide)).or (((slice_hook w).le (by decide) (by decide)).or (((sjoin_hook w).le (by decide) (by decide)).or (((siter_hook w).le (by decide) (by decide)).or (((filt_hook w).le (by decide) (by decide)).or (((evl_hook w).le (by decide) (by decide)).or (((rdl_hook w).le (by decide) (by decide)).or (((signs_hook w).le (by decide) (by decide)).or (((pow_hook w).le (by decide) (by decide)).or ((mod_hook w).le (by decide) (by decide)))))))))))))
end Mine
end
section
open PySem PySem.W PyProof.Rows PySem.W.X Mine
set_option Elab.async false
set_option maxRecDepth 100000
set_option maxHeartbeats 0
set_option linter.unusedVariables false
namespace Mine
noncomputable def lgA (w : World) (vs : List Value) (e k0 : Nat) (sc L ci cm ch cc : Addr) : List (Addr × Obj) := [(sc, liS vs e), (16, tabA w), (L, lwF0 w sc k0), (cc, celN), (ch, celN), (cm, celN), (ci, celN)]
noncomputable def trA (w : World) (i n : Nat) (L ci cm ch cc : Addr) : Sem Flow := PySem.W.ZFast.zw12563942051412417395 (((lwBody w).drop i).take n) (lwE w L ci cm ch cc)
section
variable (w : World) (vs : List Value) (e k0 : Nat) (sc L ci cm ch cc : Addr) (h : Heap) (g : Array GenState) (d : Drawn) (os : OsState)
noncomputable def orcA0 (b1 b2 b3 : Bool) : List Nat := orcG w (trA w 0 2 1000002 1000003 1000004 1000005 1000006) encF (hHook w) (lgA w vs e k0 1000001 1000002 1000003 1000004 1000005 1000006) 410 4100 430 4300 g d os b1 b2 b3
noncomputable def rnA0 : RanT := ranT pr w 111 1 (ktA w) (lgA w vs e k0 sc L ci cm ch cc) 410 4100 430 4300 h g d os (hHook w) NoE encF (trA w 0 2 L ci cm ch cc) 20000 (orcA0 w vs e k0 g d os)
end
end Mine
end
section
open PySem PySem.W PyProof.Rows PySem.W.X Mine
set_option Elab.async false
set_option maxRecDepth 100000
set_option maxHeartbeats 0
set_option linter.unusedVariables false
namespace Mine
noncomputable def scV (n : Nat) (x : Nat → Int) (t : Nat → Nat) : List Value := (List.range n).map fun i => .int (x i) (t i)
noncomputable def nm (X : Nat → Int) (i : Nat) : Int := Int.fmod (X i) 4294967296
noncomputable def numV2 (m : Nat) (X : Nat → Int) (tz : Nat → Nat) : List Value := (List.range m).map fun i => .int (nm X i) (tz i)
noncomputable def shV (m : Nat) (X : Nat → Int) (ts : Nat → Nat) : List Value := (List.range m).map fun i => .str (slCut (fmS (nm X i)) (some (1, 0)) none) (ts i)
noncomputable def shS (m : Nat) (X : Nat → Int) : Str := sL (catV (shV m X fun _ => 0))
noncomputable abbrev lwF1 (w : World) (sc Z : Addr) (k0 k1 k2 : Nat) (X : Str) (tX : Nat) : Obj := { cls := .type "frame", data := .dict #[rEnt w "script" k0 (.ref sc), rEnt w "numbers" k1 (.ref Z), rEnt w "shown" k2 (.str X tX)] 3 }
noncomputable def lgN (w : World) (vs : List Value) (e k0 k1 k2 m : Nat) (X : Nat → Int) (tz : Nat → Nat) (tX : Nat) (sc L ci cm ch cc Z : Addr) : List (Addr × Obj) := [(sc, liS vs e), (16, tabA w), (L, lwF1 w sc Z k0 k1 k2 (shS m X) tX), (cc, celN), (ch, celN), (cm, celN), (ci, celN), (Z, liS (numV2 m X tz) m)]
noncomputable def facts0 (m δ : Nat) (vs us : List Value) (X : Nat → Int) (tk : Nat → Nat) : List Prop :=
  StrsOk (shV m X fun i => tk (5 * m + 8 + 4 * i + δ)) :: (((List.range m).map fun i => SlOk (fmS (nm X i)) (tk (5 * m + 6 + 4 * i + δ)) (some (1, 0)) none).reverse ++ [us.length ≤ 1000, vs.length ≤ 1000])
noncomputable def ob0 (w : World) (vs : List Value) (e k0 m δ : Nat) (X : Nat → Int) (sc : Addr) (a : Nat) (ad tk : Nat → Nat) : List Obj := [liS vs e, tabA w, lwF1 w sc (ad a) k0 (tk (5 * m + 3 + δ)) (tk (9 * m + 6 + δ)) (shS m X) (tk (9 * m + 5 + δ)), celN, celN, celN, celN, liS (numV2 m X fun i => tk (7 + 5 * i + δ)) m]
noncomputable def Chk0 (w : World) (vs us : List Value) (e k0 m δ a : Nat) (X : Nat → Int) (sc L ci cm ch cc : Addr) (h : Heap) (g : Array GenState) (d : Drawn) (os : OsState) : Prop := ∀ b1 b2 b3, tellG1 (rnA0 w vs e k0 sc L ci cm ch cc h g d os) [0, 1, 2, 3, 4, 5, 6, a] b1 b2 b3 = tellG2 (rnA0 w vs e k0 sc L ci cm ch cc h g d os) 111 1 encF (fun _ tk => facts0 m δ vs us X tk) (fun _ _ => .next) (ob0 w vs e k0 m δ X sc a) b1 b2 b3
section
variable {w : World} {e k0 : Nat} {x : Nat → Int} {tx : Nat → Nat} {sc L ci cm ch cc : Addr} {h : Heap} {g : Array GenState} {d : Drawn} {os : OsState}
noncomputable def dfl (i : Nat) : Int := [3449, 80].getD i 0
theorem s0_0 : ∃ us : List Value, us.length ≤ 1000 ∧ Chk0 w (scV 0 x tx) us e k0 2 2 11 dfl sc L ci cm ch cc h g d os := ⟨[.int 3449 0, .int 80 0], by decide, orc13 (by kernel_rfl)⟩
theorem s0_1 : Chk0 w (scV 1 x tx) (scV 1 x tx) e k0 1 0 10 x sc L ci cm ch cc h g d os := orc13 (by kernel_rfl)
theorem s0_2 : Chk0 w (scV 2 x tx) (scV 2 x tx) e k0 2 0 10 x sc L ci cm ch cc h g d os := orc13 (by kernel_rfl)
theorem s0_3 : Chk0 w (scV 3 x tx) (scV 3 x tx) e k0 3 0 10 x sc L ci cm ch cc h g d os := orc13 (by kernel_rfl)
noncomputable def sc4 (x : Nat → Int) (tx : Nat → Nat) (rest : List Value) : List Value := [.int (x 0) (tx 0), .int (x 1) (tx 1), .int (x 2) (tx 2), .int (x 3) (tx 3)] ++ rest
theorem s0_big {rest : List Value} : Chk0 w (sc4 x tx rest) (sc4 x tx rest) e k0 4 0 10 x sc L ci cm ch cc h g d os := orc13 (by kernel_rfl)
end
end Mine
end
section
open PySem PySem.W PyProof.Rows PySem.W.X Mine
set_option Elab.async false
set_option maxRecDepth 100000
set_option maxHeartbeats 0
set_option linter.unusedVariables false
namespace Mine
theorem fmS_len (z : Int) : (fmS z).cps.toList.length = 10 := rfl
theorem slCut9 (z : Int) : slCut (fmS z) (some (1, 0)) none = sL ((fmS z).cps.toList.drop 1) := by
  show cutS (fmS z) 1 10 = _
  unfold cutS
  rw [List.take_of_length_le (by rw [List.length_drop, fmS_len]; exact Nat.le_refl _)]
theorem strs_len (X : Nat → Int) (ts : Nat → Nat) : ∀ l : List Nat, (catL (l.map fun i => (slCut (fmS (nm X i)) (some (1, 0)) none, ts i))).length = 9 * l.length
  | [] => rfl
  | i :: l => by
    show ((slCut (fmS (nm X i)) (some (1, 0)) none).cps.toList ++ catL _).length = _
    rw [List.length_append, strs_len X ts l, slCut9]
    show ((fmS (nm X i)).cps.toList.drop 1).length + _ = _
    rw [List.length_drop, fmS_len, List.length_cons]
    omega
theorem shV_eq (m : Nat) (X : Nat → Int) (ts : Nat → Nat) : shV m X ts = strValues ((List.range m).map fun i => (slCut (fmS (nm X i)) (some (1, 0)) none, ts i)) := by
  unfold shV strValues
  rw [List.map_map]
  rfl
theorem shS_len (m : Nat) (X : Nat → Int) : (shS m X).cps.toList.length = 9 * m := by
  show (catV (shV m X _)).length = _
  rw [shV_eq, catV_eq, strs_len, List.length_range]
theorem facts0_ok {m δ : Nat} {vs us : List Value} {X : Nat → Int} {tk : Nat → Nat} (hm : m ≤ 4) (hk : ∀ i, 1 ≤ tk i) (h1 : us.length ≤ 1000) (h2 : vs.length ≤ 1000) : ∀ P ∈ facts0 m δ vs us X tk, P := by
  unfold facts0
  refine allC ⟨_, shV_eq m X _, ?_, fun p hp => ?_⟩ fun P hP => ?_
  · rw [strs_len, List.length_range]; omega
  · obtain ⟨i, _, rfl⟩ := List.mem_map.mp hp
    exact hk _
  · rcases List.mem_append.mp hP with hP | hP
    · obtain ⟨i, _, rfl⟩ := List.mem_map.mp (List.mem_reverse.mp hP)
      refine ⟨hk _, (by decide : (0 : Int) ≤ 1), ?_, Int.le_refl _, by rw [fmS_len]; decide⟩
      show (1 : Int) ≤ ((fmS (nm X i)).cps.toList.length : Int)
      rw [fmS_len]
      decide
    · exact allC h1 (allC h2 allN) P hP
section
variable {w : World} {e k0 : Nat} {sc L ci cm ch cc : Addr} {xs : List Addr} {h₀ h : Heap} {g : Array GenState} {d : Drawn} {os : OsState} {t : Nat} {Q : Flow → Shared → Prop}
theorem s0_of {vs us : List Value} {m δ a : Nat} {X : Nat → Int} (H : Chk0 w vs us e k0 m δ a X sc L ci cm ch cc h g d os) (ha : 7 ≤ a) (hnd : [0, 1, 2, 3, 4, 5, 6, a].Nodup) (hm : m ≤ 4) (h1 : us.length ≤ 1000) (h2 : vs.length ≤ 1000)
    (D : Lg xs h₀ h (lgA w vs e k0 sc L ci cm ch cc)) (hT : TopOf (ktA w) h) (hn : 111 ≤ h₀.objs.size) (hx : ∀ a ∈ xs, (ktA w).get a = none) (ht : 1 ≤ t)
    (hq : ∀ h' t' k1 k2 tz tX Z, 1 ≤ tX → Lg xs h₀ h' (lgN w vs e k0 k1 k2 m X tz tX sc L ci cm ch cc Z) → TopOf (ktA w) h' → 1 ≤ t' → Q .next ⟨h', g, d, t', os⟩) :
    wpAny (model pr w) (An 410 4100) (execs ((lwBody w).take 2) (lwE w L ci cm ch cc)) Q NoE ⟨h, g, d, t, os⟩ := by
  show wpAny (model pr w) (An 410 4100) (execs (((lwBody w).drop 0).take 2) (lwE w L ci cm ch cc)) Q NoE ⟨h, g, d, t, os⟩
  refine tw_execs ?_
  refine led_goH encF 20000 (orcA0 w vs e k0 g d os) [0, 1, 2, 3, 4, 5, 6, a] (fun _ tk => facts0 m δ vs us X tk) (fun _ tk hk => facts0_ok hm hk h1 h2) (fun _ _ => .next) (ob0 w vs e k0 m δ X sc a) D hT hn (ktA_bound w) hx ht encF_inj (h_hook w) (by kernel_rfl) hnd H fun h' t' ad tk had htk D' hT' ht' => ?_
  · have e1 : locOf (lgA w vs e k0 sc L ci cm ch cc) 0 ad a = ad a := by
      unfold locOf
      rw [List.getElem?_eq_none (by show 7 ≤ a; exact ha)]
      rfl
    have e2 : ([0, 1, 2, 3, 4, 5, 6, a] : List Nat).map (locOf (lgA w vs e k0 sc L ci cm ch cc) 0 ad) = [sc, 16, L, cc, ch, cm, ci, ad a] := by
      show [sc, 16, L, cc, ch, cm, ci, locOf _ 0 ad a] = _
      rw [e1]
    rw [e2] at D'
    exact hq h' t' _ _ (fun i => tk (7 + 5 * i + δ)) _ (ad a) (htk _) D' hT' ht'
theorem s0_ex (n : Nat) (hn63 : n ≤ 63) (x : Nat → Int) (tx : Nat → Nat) : ∃ (m δ a : Nat) (X : Nat → Int) (us : List Value), (1 ≤ m ∧ m ≤ 4) ∧ 7 ≤ a ∧ [0, 1, 2, 3, 4, 5, 6, a].Nodup ∧ us.length ≤ 1000 ∧ Chk0 w (scV n x tx) us e k0 m δ a X sc L ci cm ch cc h g d os := by
  have hl : (scV n x tx).length ≤ 1000 := by unfold scV; rw [List.length_map, List.length_range]; exact Nat.le_trans hn63 (by decide)
  match n, hl with
  | 0, _ =>
    obtain ⟨us, hu, H⟩ := s0_0 (w := w) (e := e) (k0 := k0) (x := x) (tx := tx) (sc := sc) (L := L) (ci := ci) (cm := cm) (ch := ch) (cc := cc) (h := h) (g := g) (d := d) (os := os)
    exact ⟨2, 2, 11, dfl, us, by decide, by decide, by decide, hu, H⟩
  | 1, hl => exact ⟨1, 0, 10, x, _, by decide, by decide, by decide, hl, s0_1⟩
  | 2, hl => exact ⟨2, 0, 10, x, _, by decide, by decide, by decide, hl, s0_2⟩
  | 3, hl => exact ⟨3, 0, 10, x, _, by decide, by decide, by decide, hl, s0_3⟩
  | k + 4, hl =>
    have e1 : scV (k + 4) x tx = sc4 x tx (((List.range k).map (4 + ·)).map fun i => .int (x i) (tx i)) := by
      unfold scV sc4
      rw [show k + 4 = 4 + k from Nat.add_comm _ _, List.range_add, List.map_append]
      rfl
    rw [e1] at hl ⊢
    exact ⟨4, 0, 10, x, _, by decide, by decide, by decide, hl, s0_big⟩
theorem s0_all {n : Nat} {x : Nat → Int} {tx : Nat → Nat} (hn63 : n ≤ 63)
    (D : Lg xs h₀ h (lgA w (scV n x tx) e k0 sc L ci cm ch cc)) (hT : TopOf (ktA w) h) (hn : 111 ≤ h₀.objs.size) (hx : ∀ a ∈ xs, (ktA w).get a = none) (ht : 1 ≤ t)
    (hq : ∀ m X h' t' k1 k2 tz tX Z, 1 ≤ m → m ≤ 4 → 1 ≤ tX → Lg xs h₀ h' (lgN w (scV n x tx) e k0 k1 k2 m X tz tX sc L ci cm ch cc Z) → TopOf (ktA w) h' → 1 ≤ t' → Q .next ⟨h', g, d, t', os⟩) :
    wpAny (model pr w) (An 410 4100) (execs ((lwBody w).take 2) (lwE w L ci cm ch cc)) Q NoE ⟨h, g, d, t, os⟩ := by
  obtain ⟨m, δ, a, X, us, ⟨hm1, hm4⟩, ha, hnd, hu, H⟩ := s0_ex (w := w) (e := e) (k0 := k0) (sc := sc) (L := L) (ci := ci) (cm := cm) (ch := ch) (cc := cc) (h := h) (g := g) (d := d) (os := os) n hn63 x tx
  exact s0_of H ha hnd hm4 hu (by unfold scV; rw [List.length_map, List.length_range]; exact Nat.le_trans hn63 (by decide)) D hT hn hx ht fun h' t' k1 k2 tz tX Z => hq m X h' t' k1 k2 tz tX Z hm1 hm4
end
end Mine
end
section
open PySem PySem.W PyProof.Rows PySem.W.X Mine
set_option Elab.async false
set_option maxRecDepth 100000
set_option maxHeartbeats 0
set_option linter.unusedVariables false
namespace Mine
noncomputable def h0Hook (w : World) : Code → Option Hr := orHook snextEHook (orHook sjoinHook (orHook siterHook (orHook (filtHook w) (evlHook w))))
theorem h0_hook (w : World) : HookS pr w (ktA w) 111 1 430 4300 (h0Hook w) := ((snextE_hook w).le (by decide) (by decide)).or (((sjoin_hook w).le (by decide) (by decide)).or (((siter_hook w).le (by decide) (by decide)).or (((filt_hook w).le (by decide) (by decide)).or ((evl_hook w).le (by decide) (by decide)))))
noncomputable def hkB' (w : World) (β : Bool) : Code → Option Hr := match β with
  | true => hHook w
  | false => h0Hook w
theorem hkB'_hook (w : World) (β : Bool) : HookS pr w (ktA w) 111 1 430 4300 (hkB' w β) := match β with
  | true => h_hook w
  | false => h0_hook w
noncomputable def lgB (w : World) (sc Z L cc : Addr) (k0 k1 k2 : Nat) (X : Str) (tX : Nat) : List (Addr × Obj) := [(L, lwF1 w sc Z k0 k1 k2 X tX), (cc, celN)]
section
variable (w : World) (β : Bool) (sc Z L ci cm ch cc : Addr) (k0 k1 k2 : Nat) (X : Str) (tX : Nat) (h : Heap) (g : Array GenState) (d : Drawn) (os : OsState)
noncomputable def orcB2 (b1 b2 b3 : Bool) : List Nat := orcG w (trA w 2 1 1000002 1000003 1000004 1000005 1000006) encF (hkB' w β) (lgB w sc Z 1000002 1000006 k0 k1 k2 X tX) 410 4100 430 4300 g d os b1 b2 b3
noncomputable def rnB2 : RanT := ranT pr w 111 1 (ktA w) (lgB w sc Z L cc k0 k1 k2 X tX) 410 4100 430 4300 h g d os (hkB' w β) NoE encF (trA w 2 1 L ci cm ch cc) 20000 (orcB2 w β sc Z k0 k1 k2 X tX g d os)
end
end Mine
end
section
open PySem PySem.W PyProof.Rows PySem.W.X Mine
set_option Elab.async false
set_option maxRecDepth 100000
set_option maxHeartbeats 0
set_option linter.unusedVariables false
namespace Mine
theorem evenC_mem {c a : Nat} {l : List Nat} (h : a ∈ evenC c l) : a ∈ l := by
  unfold evenC at h
  split at h
  · unfold dropC at h
    rcases List.mem_append.mp h with h | h
    · exact List.mem_of_mem_take h
    · exact List.mem_of_mem_drop h
  · exact h
theorem evenL_mem {a : Nat} {l : List Nat} (h : a ∈ evenL l) : a ∈ l := evenC_mem (evenC_mem (evenC_mem h))
theorem evenL_len (l : List Nat) : (evenL l).length ≤ l.length := Nat.le_trans (even_len _ _) (Nat.le_trans (even_len _ _) (even_len _ _))
theorem catV_zipS : ∀ (cs ts : List Nat), cs.length = ts.length → catV (zipS cs ts) = cs
  | [], _, _ => rfl
  | c :: cs, [], h => nomatch h
  | c :: cs, t :: ts, h => by
    show c :: catV (zipS cs ts) = _
    rw [catV_zipS cs ts (Nat.succ.inj h)]
theorem catL_zip : ∀ (cs ts : List Nat), cs.length = ts.length → (catL ((cs.zip ts).map fun p => ((⟨#[p.1]⟩ : Str), p.2))).length = cs.length
  | [], _, _ => rfl
  | c :: cs, [], h => nomatch h
  | c :: cs, t :: ts, h => by
    exact congrArg (· + 1) (catL_zip cs ts (Nat.succ.inj h))
theorem filL_mem {X : Str} {a : Nat} (h : a ∈ filL X) : a ∈ rwx := of_decide_eq_true (List.mem_filter.mp h).2
theorem filL_len (X : Str) : (filL X).length ≤ X.cps.toList.length := List.length_filter_le _ _
theorem rwx_small {l : List Nat} (h : ∀ a ∈ l, a ∈ rwx) : (sL l).cps.all (· < 128) = true := by
  rw [← Array.all_toList, List.all_eq_true]
  intro a ha
  have := h a ha
  simp only [rwx, List.mem_cons, List.not_mem_nil, or_false] at this
  exact decide_eq_true (by omega)
noncomputable def zB (X : Str) (tk : Nat → Nat) : List Value := zipS (filL X) (decT (tk 1) (tk 2) (filL X).length)
noncomputable def txB (X : Str) (tk : Nat → Nat) : List Nat := evenL (catV (zB X tk))
theorem zB_cat (X : Str) (tk : Nat → Nat) : catV (zB X tk) = filL X := catV_zipS _ _ (decT_len _ _ _).symm
theorem txB_eq (X : Str) (tk : Nat → Nat) : txB X tk = evenL (filL X) := by unfold txB; rw [zB_cat]
noncomputable def factsB (β : Bool) (X : Str) (tk : Nat → Nat) : List Prop :=
  (match β with
   | true => [∀ c ∈ txB X tk, c ∈ rwx, (txB X tk).length ≤ 500, 1 ≤ (txB X tk).length]
   | false => [(txB X tk).length ≤ 0]) ++ [(sL (txB X tk)).cps.all (· < 128) = true, 1 ≤ tk 5, (catV (zB X tk)).length ≤ 500, (⟨#[114, 119, 120]⟩ : Str).cps.all (· < 128) = true, StrsOk (zB X tk), 1 ≤ X.cps.toList.length, X.cps.toList.length ≤ 1000, X.cps.all (· < 128) = true]
noncomputable def celR (a : Addr) : Obj := { cls := .type "cell", data := .cell (some (.ref a)) }
noncomputable def adB (β : Bool) : Nat := match β with
  | true => 10
  | false => 7
noncomputable def cvB (β : Bool) (X : Str) (tk : Nat → Nat) : List Value := match β with
  | true => cntV 0 (tk 16) (txB X tk) (tk 22) (tk 23)
  | false => [.int 0 (tk 16)]
noncomputable def obB (w : World) (β : Bool) (sc Z : Addr) (k0 k1 k2 : Nat) (X : Str) (tX : Nat) (ad tk : Nat → Nat) : List Obj := [lwF1 w sc Z k0 k1 k2 X tX, celR (ad (adB β)), liS (cvB β X tk) 0]
noncomputable def ChkB (w : World) (β : Bool) (sc Z L ci cm ch cc : Addr) (k0 k1 k2 : Nat) (X : Str) (tX : Nat) (h : Heap) (g : Array GenState) (d : Drawn) (os : OsState) : Prop := ∀ b1 b2 b3, tellG1 (rnB2 w β sc Z L ci cm ch cc k0 k1 k2 X tX h g d os) [0, 1, adB β] b1 b2 b3 = tellG2 (rnB2 w β sc Z L ci cm ch cc k0 k1 k2 X tX h g d os) 111 1 encF (fun _ tk => factsB β X tk) (fun _ _ => .next) (obB w β sc Z k0 k1 k2 X tX) b1 b2 b3
section
variable {w : World} {sc Z L ci cm ch cc : Addr} {k0 k1 k2 : Nat} {X : Str} {tX : Nat} {h : Heap} {g : Array GenState} {d : Drawn} {os : OsState}
theorem s2_t : ChkB w true sc Z L ci cm ch cc k0 k1 k2 X tX h g d os := orc13 (by kernel_rfl)
theorem s2_f : ChkB w false sc Z L ci cm ch cc k0 k1 k2 X tX h g d os := orc13 (by kernel_rfl)
theorem factsB_ok {β : Bool} {X : Str} {tk : Nat → Nat} (hβ : β = !(evenL (filL X)).isEmpty) (hk : ∀ i, 1 ≤ tk i) (h1 : 1 ≤ X.cps.toList.length) (h2 : X.cps.toList.length ≤ 500) (h3 : X.cps.all (· < 128) = true) : ∀ P ∈ factsB β X tk, P := by
  have hm : ∀ c ∈ txB X tk, c ∈ rwx := fun c hc => by
    rw [txB_eq] at hc
    exact filL_mem (evenL_mem hc)
  have hl : (filL X).length ≤ 500 := Nat.le_trans (filL_len X) h2
  have hl2 : (txB X tk).length ≤ 500 := by
    rw [txB_eq]
    exact Nat.le_trans (evenL_len _) hl
  have hs : StrsOk (zB X tk) := ⟨_, rfl, by rw [catL_zip _ _ (decT_len _ _ _).symm]; omega, fun p hp => by
    obtain ⟨q, hq, rfl⟩ := List.mem_map.mp hp
    exact decT_ge q.2 (List.of_mem_zip hq).2⟩
  unfold factsB
  intro P hP
  rcases List.mem_append.mp hP with hP | hP
  · cases β with
    | true =>
      refine allC hm (allC hl2 (allC ?_ allN)) P hP
      rw [txB_eq]
      cases he : evenL (filL X) with
      | nil => rw [he] at hβ; exact nomatch hβ
      | cons a l => exact Nat.le_add_left ..
    | false =>
      refine allC ?_ allN P hP
      rw [txB_eq]
      cases he : evenL (filL X) with
      | nil => exact Nat.le_refl _
      | cons a l => rw [he] at hβ; exact nomatch hβ
  · exact allC (rwx_small hm) (allC (hk 5) (allC (by rw [zB_cat]; exact hl) (allC (rwx_small (l := rwx) fun _ h => h) (allC hs (allC h1 (allC (by omega) (allC h3 allN))))))) P hP
noncomputable def ctV (E : List Nat) (tz B n : Nat) : List Value := cntV 0 tz E B n
theorem cvB_eq (X : Str) (tk : Nat → Nat) (hk : ∀ i, 1 ≤ tk i) : ∃ B n, cvB (!(evenL (filL X)).isEmpty) X tk = ctV (evenL (filL X)) (tk 16) B n := by
  cases he : evenL (filL X) with
  | nil => exact ⟨1, 1, rfl⟩
  | cons a l =>
    refine ⟨tk 22, tk 23, ?_⟩
    show cntV 0 (tk 16) (txB X tk) (tk 22) (tk 23) = _
    rw [txB_eq, he]
    rfl
noncomputable def lgB' (w : World) (sc Z L cc C : Addr) (k0 k1 k2 : Nat) (X : Str) (tX tz B n : Nat) : List (Addr × Obj) := [(L, lwF1 w sc Z k0 k1 k2 X tX), (cc, celR C), (C, liS (ctV (evenL (filL X)) tz B n) 0)]
theorem s2_of {xs : List Addr} {h₀ : Heap} {t : Nat} {Q : Flow → Shared → Prop} {β : Bool} (hβ : β = !(evenL (filL X)).isEmpty) (H : ChkB w β sc Z L ci cm ch cc k0 k1 k2 X tX h g d os) (h1 : 1 ≤ X.cps.toList.length) (h2 : X.cps.toList.length ≤ 500) (h3 : X.cps.all (· < 128) = true)
    (D : Lg xs h₀ h (lgB w sc Z L cc k0 k1 k2 X tX)) (hT : TopOf (ktA w) h) (hn : 111 ≤ h₀.objs.size) (hx : ∀ a ∈ xs, (ktA w).get a = none) (ht : 1 ≤ t)
    (hq : ∀ h' t' C tz B n, 1 ≤ tz → Lg xs h₀ h' (lgB' w sc Z L cc C k0 k1 k2 X tX tz B n) → TopOf (ktA w) h' → 1 ≤ t' → Q .next ⟨h', g, d, t', os⟩) :
    wpAny (model pr w) (An 410 4100) (execs (((lwBody w).drop 2).take 1) (lwE w L ci cm ch cc)) Q NoE ⟨h, g, d, t, os⟩ := by
  refine tw_execs ?_
  have e2 : ∀ ad, ([0, 1, adB β] : List Nat).map (locOf (lgB w sc Z L cc k0 k1 k2 X tX) 0 ad) = [L, cc, ad (adB β)] := fun ad => by cases β <;> rfl
  refine led_goH encF 20000 (orcB2 w β sc Z k0 k1 k2 X tX g d os) [0, 1, adB β] (fun _ tk => factsB β X tk) (fun _ tk hk => factsB_ok hβ hk h1 h2 h3) (fun _ _ => .next) (obB w β sc Z k0 k1 k2 X tX) D hT hn (ktA_bound w) hx ht encF_inj (hkB'_hook w β) (by kernel_rfl) (by cases β <;> decide) H fun h' t' ad tk had htk D' hT' ht' => ?_
  rw [e2] at D'
  obtain ⟨B, n, e⟩ := cvB_eq X tk htk
  refine hq h' t' (ad (adB β)) (tk 16) B n (htk _) ?_ hT' ht'
  have e3 : liS (cvB β X tk) 0 = liS (ctV (evenL (filL X)) (tk 16) B n) 0 := by rw [hβ, e]
  show Lg xs h₀ h' [(L, lwF1 w sc Z k0 k1 k2 X tX), (cc, celR (ad (adB β))), (ad (adB β), liS (ctV (evenL (filL X)) (tk 16) B n) 0)]
  rw [← e3]
  exact D'
theorem s2_all {xs : List Addr} {h₀ : Heap} {t : Nat} {Q : Flow → Shared → Prop} (h1 : 1 ≤ X.cps.toList.length) (h2 : X.cps.toList.length ≤ 500) (h3 : X.cps.all (· < 128) = true)
    (D : Lg xs h₀ h (lgB w sc Z L cc k0 k1 k2 X tX)) (hT : TopOf (ktA w) h) (hn : 111 ≤ h₀.objs.size) (hx : ∀ a ∈ xs, (ktA w).get a = none) (ht : 1 ≤ t)
    (hq : ∀ h' t' C tz B n, 1 ≤ tz → Lg xs h₀ h' (lgB' w sc Z L cc C k0 k1 k2 X tX tz B n) → TopOf (ktA w) h' → 1 ≤ t' → Q .next ⟨h', g, d, t', os⟩) :
    wpAny (model pr w) (An 410 4100) (execs (((lwBody w).drop 2).take 1) (lwE w L ci cm ch cc)) Q NoE ⟨h, g, d, t, os⟩ := by
  cases hβ : (!(evenL (filL X)).isEmpty) with
  | true => exact s2_of hβ.symm s2_t h1 h2 h3 D hT hn hx ht hq
  | false => exact s2_of hβ.symm s2_f h1 h2 h3 D hT hn hx ht hq
end
end Mine
end
section
open PySem PySem.W PyProof.Rows PySem.W.X Mine
set_option Elab.async false
set_option maxRecDepth 100000
set_option maxHeartbeats 0
set_option linter.unusedVariables false
namespace Mine
noncomputable def lgD (w : World) (sc Z L : Addr) (k0 k1 k2 : Nat) (X : Str) (tX m : Nat) (Y : Nat → Int) (tz : Nat → Nat) : List (Addr × Obj) := [(L, lwF1 w sc Z k0 k1 k2 X tX), (Z, liS (numV2 m Y tz) m)]
section
variable (w : World) (sc Z L ci cm ch cc : Addr) (k0 k1 k2 : Nat) (X : Str) (tX m : Nat) (Y : Nat → Int) (tz : Nat → Nat) (h : Heap) (g : Array GenState) (d : Drawn) (os : OsState)
noncomputable def orcD (b1 b2 b3 : Bool) : List Nat := orcG w (trA w 3 1 1000002 1000003 1000004 1000005 1000006) encF (hHook w) (lgD w sc 1000001 1000002 k0 k1 k2 X tX m Y tz) 410 4100 430 4300 g d os b1 b2 b3
noncomputable def rnD : RanT := ranT pr w 111 1 (ktA w) (lgD w sc Z L k0 k1 k2 X tX m Y tz) 410 4100 430 4300 h g d os (hHook w) NoE encF (trA w 3 1 L ci cm ch cc) 20000 (orcD w sc k0 k1 k2 X tX m Y tz g d os)
end
noncomputable def sgV (m : Nat) (Y : Nat → Int) (ts : Nat → Nat) : List Value := (List.range m).map fun i => .str (sgS (nm Y i)) (ts i)
theorem sgV_eq (m : Nat) (Y : Nat → Int) (ts : Nat → Nat) : sgV m Y ts = strValues ((List.range m).map fun i => (sgS (nm Y i), ts i)) := by
  unfold sgV strValues
  rw [List.map_map]
  rfl
theorem sgV_cat (m : Nat) (Y : Nat → Int) (ts ts' : Nat → Nat) : catV (sgV m Y ts) = catV (sgV m Y ts') := by
  unfold sgV
  generalize List.range m = l
  induction l with
  | nil => rfl
  | cons i l ih =>
    show _ ++ catV _ = _ ++ catV _
    rw [ih]
    rfl
theorem sgS_len (x : Int) : (sgS x).cps.toList.length ≤ 9 := by
  have l1 := sg1_len ⟨#[]⟩ x 2
  have l2 := sg1_len (sg1 ⟨#[]⟩ x 2) x 1
  have l3 := sg1_len (sg1 (sg1 ⟨#[]⟩ x 2) x 1) x 0
  have z : (⟨#[]⟩ : Str).length = 0 := rfl
  show (sg1 (sg1 (sg1 ⟨#[]⟩ x 2) x 1) x 0).length ≤ 9
  omega
theorem sgs_len (Y : Nat → Int) (ts : Nat → Nat) : ∀ l : List Nat, (catL (l.map fun i => (sgS (nm Y i), ts i))).length ≤ 9 * l.length
  | [] => Nat.le_refl _
  | i :: l => by
    show ((sgS (nm Y i)).cps.toList ++ catL _).length ≤ _
    rw [List.length_append, List.length_cons]
    have := sgs_len Y ts l
    have := sgS_len (nm Y i)
    omega
noncomputable def sgL (m : Nat) (Y : Nat → Int) : List Nat := catV (sgV m Y fun _ => 0)
theorem sgL_len (m : Nat) (Y : Nat → Int) : (sgL m Y).length ≤ 9 * m := by
  unfold sgL
  rw [sgV_eq, catV_eq]
  have := sgs_len Y (fun _ => 0) (List.range m)
  rw [List.length_range] at this
  exact this
noncomputable def factsD (m : Nat) (Y : Nat → Int) (tk : Nat → Nat) : List Prop :=
  [1 ≤ tk (2 * m + 1), (catV (sgV m Y fun i => tk (2 + 2 * i))).length ≤ 500, (⟨#[114, 119, 120]⟩ : Str).cps.all (· < 128) = true, StrsOk (sgV m Y fun i => tk (2 + 2 * i))]
noncomputable abbrev lwF2 (w : World) (sc Z : Addr) (k0 k1 k2 k3 : Nat) (X : Str) (tX : Nat) (E : Str) (tE : Nat) : Obj := { cls := .type "frame", data := .dict #[rEnt w "script" k0 (.ref sc), rEnt w "numbers" k1 (.ref Z), rEnt w "shown" k2 (.str X tX), rEnt w "beads" k3 (.str E tE)] 4 }
noncomputable def obD (w : World) (sc Z : Addr) (k0 k1 k2 : Nat) (X : Str) (tX m : Nat) (Y : Nat → Int) (tz : Nat → Nat) (ad tk : Nat → Nat) : List Obj := [lwF2 w sc Z k0 k1 k2 (tk (2 * m + 12)) X tX (sL (evenL (catV (sgV m Y fun i => tk (2 + 2 * i))))) (tk (2 * m + 4)), liS (numV2 m Y tz) m]
noncomputable def ChkD (w : World) (sc Z L ci cm ch cc : Addr) (k0 k1 k2 : Nat) (X : Str) (tX m : Nat) (Y : Nat → Int) (tz : Nat → Nat) (h : Heap) (g : Array GenState) (d : Drawn) (os : OsState) : Prop := ∀ b1 b2 b3, tellG1 (rnD w sc Z L ci cm ch cc k0 k1 k2 X tX m Y tz h g d os) [0, 1] b1 b2 b3 = tellG2 (rnD w sc Z L ci cm ch cc k0 k1 k2 X tX m Y tz h g d os) 111 1 encF (fun _ tk => factsD m Y tk) (fun _ _ => .next) (obD w sc Z k0 k1 k2 X tX m Y tz) b1 b2 b3
section
variable {w : World} {sc Z L ci cm ch cc : Addr} {k0 k1 k2 : Nat} {X : Str} {tX m : Nat} {Y : Nat → Int} {tz : Nat → Nat} {h : Heap} {g : Array GenState} {d : Drawn} {os : OsState}
theorem s3_1 : ChkD w sc Z L ci cm ch cc k0 k1 k2 X tX 1 Y tz h g d os := orc13 (by kernel_rfl)
theorem s3_2 : ChkD w sc Z L ci cm ch cc k0 k1 k2 X tX 2 Y tz h g d os := orc13 (by kernel_rfl)
theorem s3_3 : ChkD w sc Z L ci cm ch cc k0 k1 k2 X tX 3 Y tz h g d os := orc13 (by kernel_rfl)
theorem s3_4 : ChkD w sc Z L ci cm ch cc k0 k1 k2 X tX 4 Y tz h g d os := orc13 (by kernel_rfl)
theorem factsD_ok {tk : Nat → Nat} (hm : m ≤ 4) (hk : ∀ i, 1 ≤ tk i) : ∀ P ∈ factsD m Y tk, P := by
  have hl := sgL_len m Y
  have e := sgV_cat m Y (fun i => tk (2 + 2 * i)) fun _ => 0
  refine allC (hk _) (allC ?_ (allC (rwx_small (l := rwx) fun _ h => h) (allC ⟨_, sgV_eq m Y _, ?_, fun p hp => ?_⟩ allN)))
  · rw [e]
    exact Nat.le_trans hl (by omega)
  · have := sgs_len Y (fun i => tk (2 + 2 * i)) (List.range m)
    rw [List.length_range] at this
    omega
  · obtain ⟨i, _, rfl⟩ := List.mem_map.mp hp
    exact hk _
noncomputable def lgD' (w : World) (sc Z L : Addr) (k0 k1 k2 k3 : Nat) (X : Str) (tX m : Nat) (Y : Nat → Int) (tz : Nat → Nat) (tE : Nat) : List (Addr × Obj) := [(L, lwF2 w sc Z k0 k1 k2 k3 X tX (sL (evenL (sgL m Y))) tE), (Z, liS (numV2 m Y tz) m)]
theorem s3_of {xs : List Addr} {h₀ : Heap} {t : Nat} {Q : Flow → Shared → Prop} (H : ChkD w sc Z L ci cm ch cc k0 k1 k2 X tX m Y tz h g d os) (hm : m ≤ 4)
    (D : Lg xs h₀ h (lgD w sc Z L k0 k1 k2 X tX m Y tz)) (hT : TopOf (ktA w) h) (hn : 111 ≤ h₀.objs.size) (hx : ∀ a ∈ xs, (ktA w).get a = none) (ht : 1 ≤ t)
    (hq : ∀ h' t' k3 tE, 1 ≤ tE → Lg xs h₀ h' (lgD' w sc Z L k0 k1 k2 k3 X tX m Y tz tE) → TopOf (ktA w) h' → 1 ≤ t' → Q .next ⟨h', g, d, t', os⟩) :
    wpAny (model pr w) (An 410 4100) (execs (((lwBody w).drop 3).take 1) (lwE w L ci cm ch cc)) Q NoE ⟨h, g, d, t, os⟩ := by
  refine tw_execs ?_
  refine led_goH encF 20000 (orcD w sc k0 k1 k2 X tX m Y tz g d os) [0, 1] (fun _ tk => factsD m Y tk) (fun _ tk hk => factsD_ok hm hk) (fun _ _ => .next) (obD w sc Z k0 k1 k2 X tX m Y tz) D hT hn (ktA_bound w) hx ht encF_inj (h_hook w) (by kernel_rfl) (by decide) H fun h' t' ad tk had htk D' hT' ht' => ?_
  refine hq h' t' (tk (2 * m + 12)) (tk (2 * m + 4)) (htk _) ?_ hT' ht'
  have e := sgV_cat m Y (fun i => tk (2 + 2 * i)) fun _ => 0
  unfold obD at D'
  rw [e] at D'
  exact D'
theorem s3_all {xs : List Addr} {h₀ : Heap} {t : Nat} {Q : Flow → Shared → Prop} (h1 : 1 ≤ m) (hm : m ≤ 4)
    (D : Lg xs h₀ h (lgD w sc Z L k0 k1 k2 X tX m Y tz)) (hT : TopOf (ktA w) h) (hn : 111 ≤ h₀.objs.size) (hx : ∀ a ∈ xs, (ktA w).get a = none) (ht : 1 ≤ t)
    (hq : ∀ h' t' k3 tE, 1 ≤ tE → Lg xs h₀ h' (lgD' w sc Z L k0 k1 k2 k3 X tX m Y tz tE) → TopOf (ktA w) h' → 1 ≤ t' → Q .next ⟨h', g, d, t', os⟩) :
    wpAny (model pr w) (An 410 4100) (execs (((lwBody w).drop 3).take 1) (lwE w L ci cm ch cc)) Q NoE ⟨h, g, d, t, os⟩ := by
  refine s3_of ?_ hm D hT hn hx ht hq
  clear D hq
  match m, h1, hm with
  | 1, _, _ => exact s3_1
  | 2, _, _ => exact s3_2
  | 3, _, _ => exact s3_3
  | 4, _, _ => exact s3_4
end
end Mine
end
section
set_option autoImplicit false
namespace Mine
noncomputable def side (p q : Int) : Bool := decide (0 < q) || (decide (q = 0) && decide (0 < p))
noncomputable def cr (p q p' q' : Int) : Bool := (side p q != side p' q') && (decide (q < 0) || decide (q' < 0))
noncomputable def Adj (p q p' q' : Int) : Prop := (p' ≤ p + 1 ∧ p ≤ p' + 1) ∧ (q' ≤ q + 1 ∧ q ≤ q' + 1)
noncomputable def NZ (p q : Int) : Prop := ¬ (p = 0 ∧ q = 0)
theorem side_t {p q : Int} (h : side p q = true) : 0 < q ∨ (q = 0 ∧ 0 < p) := by simpa [side] using h
theorem side_f {p q : Int} (h : side p q = false) (n : NZ p q) : q < 0 ∨ (q = 0 ∧ p < 0) := by
  simp [side] at h
  unfold NZ at n
  omega
theorem low_side {p q : Int} (h : q < 0) : side p q = false := by
  cases e : side p q with
  | false => rfl
  | true => rcases side_t e with h' | h' <;> omega
theorem apart {pu qu pn qn pz qz : Int} (hu : side pu qu = true) (hn : qn < 0) (hz : side pz qz = false) (hz2 : ¬ qz < 0) (nz : NZ pz qz) (h1 : Adj pu qu pn qn) (h2 : Adj pu qu pz qz) : False := by
  obtain ⟨_, a1, a2⟩ := h1
  obtain ⟨⟨b1, b2⟩, _⟩ := h2
  rcases side_f hz nz with h | h
  · exact hz2 h
  · rcases side_t hu with h' | h' <;> omega
theorem Adj.symm {p q p' q' : Int} (h : Adj p q p' q') : Adj p' q' p q := ⟨⟨h.1.2, h.1.1⟩, h.2.2, h.2.1⟩
noncomputable def bcr (u n u' n' : Bool) : Bool := (u != u') && (n || n')
theorem tri_c : ∀ u1 n1 u2 n2 u3 n3 : Bool, ((u1 && n1) || ((u2 && n2) || ((u3 && n3) || ((u1 && n2 && !u3 && !n3) || ((u1 && n3 && !u2 && !n2) || ((u2 && n1 && !u3 && !n3) || ((u2 && n3 && !u1 && !n1) || ((u3 && n1 && !u2 && !n2) || ((u3 && n2 && !u1 && !n1) ||
    ((bcr u1 n1 u2 n2 ^^ bcr u2 n2 u3 n3) == bcr u1 n1 u3 n3)))))))))) = true := by decide
theorem tri_b (u1 n1 u2 n2 u3 n3 : Bool) (h1 : (u1 && n1) = false) (h2 : (u2 && n2) = false) (h3 : (u3 && n3) = false)
    (h4 : (u1 && n2 && !u3 && !n3) = false) (h5 : (u1 && n3 && !u2 && !n2) = false) (h6 : (u2 && n1 && !u3 && !n3) = false) (h7 : (u2 && n3 && !u1 && !n1) = false) (h8 : (u3 && n1 && !u2 && !n2) = false) (h9 : (u3 && n2 && !u1 && !n1) = false) :
    (bcr u1 n1 u2 n2 ^^ bcr u2 n2 u3 n3) = bcr u1 n1 u3 n3 := by
  have z := tri_c u1 n1 u2 n2 u3 n3
  rw [h1, h2, h3, h4, h5, h6, h7, h8, h9] at z
  exact eq_of_beq z
theorem not_both (p q : Int) : (side p q && decide (q < 0)) = false := by
  cases e : decide (q < 0) with
  | false => rw [Bool.and_false]
  | true => rw [low_side (of_decide_eq_true e)]; rfl
theorem no3 {pu qu pn qn pz qz : Int} (nz : NZ pz qz) (h1 : Adj pu qu pn qn) (h2 : Adj pu qu pz qz) : (side pu qu && decide (qn < 0) && !side pz qz && !decide (qz < 0)) = false := by
  cases e1 : side pu qu with
  | false => rfl
  | true =>
    cases e2 : decide (qn < 0) with
    | false => rfl
    | true =>
      cases e3 : side pz qz with
      | true => rfl
      | false =>
        cases e4 : decide (qz < 0) with
        | true => rfl
        | false => exact (apart e1 (of_decide_eq_true e2) e3 (of_decide_eq_false e4) nz h1 h2).elim
theorem tri (p q p' q' p'' q'' : Int) (h1 : Adj p q p' q') (h2 : Adj p' q' p'' q'') (h3 : Adj p q p'' q'') (n1 : NZ p q) (n2 : NZ p' q') (n3 : NZ p'' q'') :
    (cr p q p' q' ^^ cr p' q' p'' q'') = cr p q p'' q'' :=
  tri_b _ _ _ _ _ _ (not_both p q) (not_both p' q') (not_both p'' q'') (no3 n3 h1 h3) (no3 n2 h3 h1) (no3 n3 h1.symm h2) (no3 n1 h2 h1.symm) (no3 n2 h3.symm h2.symm) (no3 n1 h2.symm h3.symm)
theorem opp_c : ∀ u1 n1 m1 u2 n2 m2 : Bool, ((u1 && n1) || ((u2 && n2) || ((!u1 && m1) || ((!u2 && m2) || ((m1 && n2) || ((m2 && n1) || ((u1 && !u2 && !m1 && !n2) || ((u2 && !u1 && !m2 && !n1) ||
    ((bcr (!u1) m1 (!u2) m2 ^^ bcr u1 n1 u2 n2) == (u1 != u2)))))))))) = true := by decide
theorem opp_b (u1 n1 m1 u2 n2 m2 : Bool) (h1 : (u1 && n1) = false) (h2 : (u2 && n2) = false) (h3 : (!u1 && m1) = false) (h4 : (!u2 && m2) = false) (h5 : (m1 && n2) = false) (h6 : (m2 && n1) = false) (h7 : (u1 && !u2 && !m1 && !n2) = false) (h8 : (u2 && !u1 && !m2 && !n1) = false) :
    (bcr (!u1) m1 (!u2) m2 ^^ bcr u1 n1 u2 n2) = (u1 != u2) := by
  have z := opp_c u1 n1 m1 u2 n2 m2
  rw [h1, h2, h3, h4, h5, h6, h7, h8] at z
  exact eq_of_beq z
theorem side_neg {p q : Int} (n : NZ p q) : side (-p) (-q) = !side p q := by
  cases e : side p q with
  | true =>
    cases e2 : side (-p) (-q) with
    | false => rfl
    | true => rcases side_t e with h | h <;> rcases side_t e2 with h' | h' <;> omega
  | false =>
    cases e2 : side (-p) (-q) with
    | true => rfl
    | false =>
      have n' : NZ (-p) (-q) := fun h => n ⟨by omega, by omega⟩
      rcases side_f e n with h | h <;> rcases side_f e2 n' with h' | h' <;> omega
theorem up_side {p q : Int} : (!side p q && decide (-q < 0)) = false := by
  cases e : decide (-q < 0) with
  | false => rw [Bool.and_false]
  | true =>
    have h := of_decide_eq_true e
    have z : side p q = true := by
      unfold side
      rw [decide_eq_true (show 0 < q by omega)]
      rfl
    rw [z]
    rfl
theorem far_up {p q p' q' : Int} (h : Adj p q p' q') : (decide (-q < 0) && decide (q' < 0)) = false := by
  obtain ⟨_, a, b⟩ := h
  cases e : decide (-q < 0) with
  | false => rfl
  | true =>
    have := of_decide_eq_true e
    rw [decide_eq_false (by omega)]
    rfl
theorem far_ray {p q p' q' : Int} (h : Adj p q p' q') (n2 : NZ p' q') : (side p q && !side p' q' && !decide (-q < 0) && !decide (q' < 0)) = false := by
  obtain ⟨⟨a, b⟩, _⟩ := h
  cases e1 : side p q with
  | false => rfl
  | true =>
    cases e2 : side p' q' with
    | true => rfl
    | false =>
      cases e3 : decide (-q < 0) with
      | true => rfl
      | false =>
        cases e4 : decide (q' < 0) with
        | true => rfl
        | false =>
          have h3 := of_decide_eq_false e3
          have h4 := of_decide_eq_false e4
          rcases side_t e1 with h | h <;> rcases side_f e2 n2 with h' | h' <;> omega
theorem opp (p q p' q' : Int) (h1 : Adj p q p' q') (n1 : NZ p q) (n2 : NZ p' q') : (cr (-p) (-q) (-p') (-q') ^^ cr p q p' q') = (side p q != side p' q') := by
  have z := opp_b (side p q) (decide (q < 0)) (decide (-q < 0)) (side p' q') (decide (q' < 0)) (decide (-q' < 0)) (not_both p q) (not_both p' q') up_side up_side (far_up h1) (far_up h1.symm) (far_ray h1 n2) (far_ray h1.symm n1)
  rw [← side_neg n1, ← side_neg n2] at z
  exact z
theorem cr_self (p q : Int) : cr p q p q = false := by simp [cr]
noncomputable def par (f : Nat → Bool) : Nat → Bool
  | 0 => false
  | n + 1 => par f n ^^ f n
theorem par_congr {f g : Nat → Bool} {n : Nat} (h : ∀ i, i < n → f i = g i) : par f n = par g n := by
  induction n with
  | zero => rfl
  | succ n ih => simp only [par]; rw [ih fun i hi => h i (by omega), h n (by omega)]
theorem par_xor (f g : Nat → Bool) (n : Nat) : par (fun i => f i ^^ g i) n = (par f n ^^ par g n) := by
  induction n with
  | zero => rfl
  | succ n ih => simp only [par]; rw [ih]; cases par f n <;> cases par g n <;> cases f n <;> cases g n <;> rfl
theorem par_false (n : Nat) : par (fun _ => false) n = false := by
  induction n with
  | zero => rfl
  | succ n ih => simp only [par]; rw [ih]; rfl
theorem par_tele (s : Nat → Bool) (n : Nat) : par (fun i => s i ^^ s (i + 1)) n = (s 0 ^^ s n) := by
  induction n with
  | zero => simp [par]
  | succ n ih => simp only [par]; rw [ih]; cases s 0 <;> cases s n <;> cases s (n + 1) <;> rfl
noncomputable def Stp (x y : Int) : Prop := (x = 1 ∧ y = 0) ∨ (x = 0 ∧ y = 1) ∨ (x = 0 ∧ y = 0)
theorem near1 {p x x' : Int} (a1 : 0 ≤ x) (a2 : x ≤ 1) (b1 : 0 ≤ x') (b2 : x' ≤ 1) : p + x - x' ≤ p + 1 ∧ p ≤ p + x - x' + 1 := by omega
theorem adj_of {x y x' y' p q p' q' : Int} (h1 : Stp x y) (h2 : Stp x' y') (hp : p' = p + x - x') (hq : q' = q + y - y') : Adj p q p' q' := by
  have b : ∀ {x y : Int}, Stp x y → 0 ≤ x ∧ x ≤ 1 ∧ 0 ≤ y ∧ y ≤ 1 := fun h => by rcases h with ⟨rfl, rfl⟩ | ⟨rfl, rfl⟩ | ⟨rfl, rfl⟩ <;> decide
  obtain ⟨a1, a2, a3, a4⟩ := b h1
  obtain ⟨b1, b2, b3, b4⟩ := b h2
  subst hp hq
  exact ⟨near1 a1 a2 b1 b2, near1 a3 a4 b3 b4⟩
section
variable (m : Nat) (R W : Nat → Int) (ρ ω : Int)
noncomputable def fP (m : Nat) (R : Nat → Int) (ρ : Int) (i d : Nat) : Int := R (i + d) - R i + ρ - R (m + d)
theorem n1 (a b c e ρ f : Int) : a - b + ρ - f = (c - e + ρ - f) + (a - c) - (b - e) := by simp +arith only
theorem n2 (a b e ρ f g : Int) : a - e + ρ - g = (a - b + ρ - f) + (b - e) - (g - f) := by simp +arith only
theorem n3 (a c e ρ f g : Int) : a - e + ρ - g = (c - e + ρ - f) + (a - c) - (g - f) := by simp +arith only
theorem n4 (a b ρ : Int) : a - b + ρ - a = ρ - b := by omega
theorem n5 {a b ρ r0 r2 : Int} (h0 : r0 = 0) (h2 : r2 = 2 * ρ) : a - r0 + ρ - b = -(b - a + ρ - r2) := by
  subst h0 h2
  simp +arith only
theorem n6 {c e ρ f : Int} (h : c - e + ρ - f = 0) : f - ρ = c - e := by omega
theorem bds {m i d : Nat} (hi : i < m) (hd : d < m) : i + d + 1 < 2 * m ∧ i + d < 2 * m ∧ i < 2 * m ∧ m + d < 2 * m := by omega
theorem bdm {m i : Nat} (hi : i < m) : i + m < 2 * m ∧ i < 2 * m := by omega
theorem fP_s (i d : Nat) : fP m R ρ (i + 1) d = R (i + d + 1) - R (i + 1) + ρ - R (m + d) := by
  unfold fP
  rw [Nat.add_right_comm i 1 d]
theorem fP_au (i d : Nat) : fP m R ρ (i + 1) d = fP m R ρ i d + (R (i + d + 1) - R (i + d)) - (R (i + 1) - R i) := (fP_s m R ρ i d).trans (n1 _ _ _ _ _ _)
theorem fP_av (i d : Nat) : fP m R ρ i (d + 1) = fP m R ρ (i + 1) d + (R (i + 1) - R i) - (R (m + d + 1) - R (m + d)) := by
  rw [fP_s]
  exact n2 _ _ _ _ _ _
theorem fP_aw (i d : Nat) : fP m R ρ i (d + 1) = fP m R ρ i d + (R (i + d + 1) - R (i + d)) - (R (m + d + 1) - R (m + d)) := n3 _ _ _ _ _ _
theorem fP_ay (i d : Nat) : fP m R ρ (i + 1) (d + 1) = fP m R ρ (i + 1) d + (R (i + d + 1 + 1) - R (i + d + 1)) - (R (m + d + 1) - R (m + d)) := by
  have z := fP_aw m R ρ (i + 1) d
  rw [Nat.add_right_comm i 1 d] at z
  exact z
theorem fP_neg (d : Nat) (h0 : R 0 = 0) (h2 : R (2 * m) = 2 * ρ) : fP m R ρ 0 d = - fP m R ρ d m := by
  unfold fP
  rw [Nat.zero_add, Nat.add_comm d m, ← Nat.two_mul]
  exact n5 h0 h2
theorem fP_z1 (i : Nat) : fP m R ρ (i + 1) 0 = fP m R ρ i 0 := by
  show R (i + 1) - R (i + 1) + ρ - R m = R i - R i + ρ - R m
  rw [Int.sub_self, Int.sub_self]
theorem fP_z2 (d : Nat) : fP m R ρ m (d + 1) = fP m R ρ m d := (n4 _ _ _).trans (n4 _ _ _).symm
theorem neck
    (hs : ∀ k, k < 2 * m → (R (k + 1) = R k + 1 ∧ W (k + 1) = W k) ∨ (R (k + 1) = R k ∧ W (k + 1) = W k + 1) ∨ (R (k + 1) = R k ∧ W (k + 1) = W k))
    (hR0 : R 0 = 0) (hW0 : W 0 = 0) (hR : R (2 * m) = 2 * ρ) (hW : W (2 * m) = 2 * ω) :
    ∃ i d, i ≤ m ∧ d ≤ m ∧ R (m + d) - ρ = R (i + d) - R i ∧ W (m + d) - ω = W (i + d) - W i := by
  refine Classical.byContradiction fun hne => ?_
  have st : ∀ k, k < 2 * m → Stp (R (k + 1) - R k) (W (k + 1) - W k) := fun k hk => by
    have one : ∀ {a b : Int}, b = a + 1 → b - a = 1 := fun h => Int.sub_eq_iff_eq_add.mpr (h.trans (Int.add_comm ..))
    rcases hs k hk with h | h | h
    · exact .inl ⟨one h.1, Int.sub_eq_zero.mpr h.2⟩
    · exact .inr (.inl ⟨Int.sub_eq_zero.mpr h.1, one h.2⟩)
    · exact .inr (.inr ⟨Int.sub_eq_zero.mpr h.1, Int.sub_eq_zero.mpr h.2⟩)
  have nz : ∀ i d, i ≤ m → d ≤ m → NZ (fP m R ρ i d) (fP m W ω i d) := fun i d hi hd h => hne ⟨i, d, hi, hd, n6 h.1, n6 h.2⟩
  let H : Nat → Nat → Bool := fun i d => cr (fP m R ρ i d) (fP m W ω i d) (fP m R ρ (i + 1) d) (fP m W ω (i + 1) d)
  let V : Nat → Nat → Bool := fun i d => cr (fP m R ρ i d) (fP m W ω i d) (fP m R ρ i (d + 1)) (fP m W ω i (d + 1))
  have sq : ∀ i d, i < m → d < m → (H i d ^^ H i (d + 1)) = (V i d ^^ V (i + 1) d) := by
    intro i d hi hd
    obtain ⟨b1, b2, b3, b4⟩ := bds hi hd
    have s1 := st (i + d) b2
    have s2 := st i b3
    have s3 := st (m + d) b4
    have s4 := st (i + d + 1) b1
    have au := adj_of s1 s2 (fP_au m R ρ i d) (fP_au m W ω i d)
    have av := adj_of s2 s3 (fP_av m R ρ i d) (fP_av m W ω i d)
    have aw := adj_of s1 s3 (fP_aw m R ρ i d) (fP_aw m W ω i d)
    have az := adj_of s4 s2 (fP_au m R ρ i (d + 1)) (fP_au m W ω i (d + 1))
    have ay := adj_of s4 s3 (fP_ay m R ρ i d) (fP_ay m W ω i d)
    have c1 := nz i d (Nat.le_of_lt hi) (Nat.le_of_lt hd)
    have c2 := nz (i + 1) d hi (Nat.le_of_lt hd)
    have c3 := nz i (d + 1) (Nat.le_of_lt hi) hd
    have c4 := nz (i + 1) (d + 1) hi hd
    have t1 := tri _ _ _ _ _ _ au av aw c1 c2 c3
    have t2 := tri _ _ _ _ _ _ av az ay c2 c3 c4
    show (cr _ _ _ _ ^^ cr _ _ _ _) = (cr _ _ _ _ ^^ cr _ _ _ _)
    rw [← t1, ← t2]
    generalize cr (fP m R ρ i d) (fP m W ω i d) (fP m R ρ (i + 1) d) (fP m W ω (i + 1) d) = A
    generalize cr (fP m R ρ (i + 1) d) (fP m W ω (i + 1) d) (fP m R ρ i (d + 1)) (fP m W ω i (d + 1)) = B
    generalize cr (fP m R ρ i (d + 1)) (fP m W ω i (d + 1)) (fP m R ρ (i + 1) (d + 1)) (fP m W ω (i + 1) (d + 1)) = C
    cases A <;> cases B <;> cases C <;> rfl
  have col : ∀ i, i < m → (H i 0 ^^ H i m) = (par (V i) m ^^ par (V (i + 1)) m) := by
    intro i hi
    rw [← par_tele (fun d => H i d) m, ← par_xor]
    exact par_congr fun d hd => sq i d hi hd
  have all : (par (fun i => H i 0) m ^^ par (fun i => H i m) m) = (par (V 0) m ^^ par (V m) m) := by
    rw [← par_tele (fun i => par (V i) m) m, ← par_xor]
    exact par_congr fun i hi => col i hi
  have z1 : par (fun i => H i 0) m = false := by
    rw [← par_false m]
    refine par_congr fun i hi => ?_
    show cr _ _ _ _ = false
    rw [fP_z1, fP_z1]; exact cr_self _ _
  have z2 : par (V m) m = false := by
    rw [← par_false m]
    refine par_congr fun d hd => ?_
    show cr _ _ _ _ = false
    rw [fP_z2, fP_z2]; exact cr_self _ _
  rw [z1, z2] at all
  have neg1 := fun d => fP_neg m R ρ d hR0 hR
  have neg2 := fun d => fP_neg m W ω d hW0 hW
  have odd : (par (V 0) m ^^ par (fun i => H i m) m) = (side (fP m R ρ 0 m) (fP m W ω 0 m) ^^ side (fP m R ρ m m) (fP m W ω m m)) := by
    rw [← par_tele (fun i => side (fP m R ρ i m) (fP m W ω i m)) m, ← par_xor]
    refine par_congr fun i hi => ?_
    obtain ⟨b1, b2⟩ := bdm hi
    have au := adj_of (st (i + m) b1) (st i b2) (fP_au m R ρ i m) (fP_au m W ω i m)
    have o := opp _ _ _ _ au (nz i m (Nat.le_of_lt hi) (Nat.le_refl _)) (nz (i + 1) m hi (Nat.le_refl _))
    show (cr (fP m R ρ 0 i) (fP m W ω 0 i) (fP m R ρ 0 (i + 1)) (fP m W ω 0 (i + 1)) ^^ cr _ _ _ _) = _
    rw [neg1 i, neg2 i, neg1 (i + 1), neg2 (i + 1), o]
  have n0 := neg1 m
  have n0' := neg2 m
  have nzm := nz m m (Nat.le_refl _) (Nat.le_refl _)
  rw [n0, n0'] at odd
  have all' : par (fun i => H i m) m = par (V 0) m := by simpa using all
  rw [all', side_neg nzm] at odd
  revert odd
  cases par (V 0) m <;> cases side (fP m R ρ m m) (fP m W ω m m) <;> exact fun h => Bool.noConfusion h
end
end Mine
end
section
open PySem PySem.W PyProof.Rows PySem.W.X Mine
set_option Elab.async false
set_option maxRecDepth 100000
set_option maxHeartbeats 4000000
set_option linter.unusedVariables false
namespace Mine
theorem mask_iff (n m : Nat) : (n &&& m = m) ↔ ∀ i, m.testBit i = true → n.testBit i = true := by
  constructor
  · intro h i hi
    have := congrArg (fun x => x.testBit i) h
    simp only [Nat.testBit_and, hi, Bool.and_true] at this
    exact this
  · intro h
    refine Nat.eq_of_testBit_eq fun i => ?_
    rw [Nat.testBit_and]
    cases e : m.testBit i with
    | false => rw [Bool.and_false]
    | true => rw [h i e]; rfl
theorem mask_pow (n k : Nat) : (n &&& 2 ^ k = 2 ^ k) ↔ n.testBit k = true := by
  rw [mask_iff]
  constructor
  · intro h; exact h k (by rw [Nat.testBit_two_pow]; simp)
  · intro h i hi
    rw [Nat.testBit_two_pow] at hi
    have : k = i := by simpa using hi
    rw [← this]; exact h
theorem mask_or (n k j : Nat) : (n &&& (2 ^ k ||| 2 ^ j) = (2 ^ k ||| 2 ^ j)) ↔ n.testBit k = true ∧ n.testBit j = true := by
  rw [mask_iff]
  constructor
  · intro h
    exact ⟨h k (by rw [Nat.testBit_or, Nat.testBit_two_pow]; simp), h j (by rw [Nat.testBit_or, Nat.testBit_two_pow, Nat.testBit_two_pow]; simp)⟩
  · intro h i hi
    rw [Nat.testBit_or, Nat.testBit_two_pow, Nat.testBit_two_pow] at hi
    rcases (Bool.or_eq_true _ _).mp hi with q | q
    · have : k = i := by simpa using q
      rw [← this]; exact h.1
    · have : j = i := by simpa using q
      rw [← this]; exact h.2
theorem andI_nat (n k : Nat) : andI (n : Int) (k : Int) = ((n &&& k : Nat) : Int) := by
  unfold andI PySem.W.ZFast.zw4806658248164788318
  simp only [Int.natCast_nonneg, decide_true]
  rfl
theorem andI_one (n k : Nat) : (andI (n : Int) ((2 ^ k : Nat) : Int) = ((2 ^ k : Nat) : Int)) ↔ n.testBit k = true := by
  rw [andI_nat, Int.natCast_inj]
  exact mask_pow n k
theorem andI_two (n k j : Nat) : (andI (n : Int) ((2 ^ k ||| 2 ^ j : Nat) : Int) = ((2 ^ k ||| 2 ^ j : Nat) : Int)) ↔ n.testBit k = true ∧ n.testBit j = true := by
  rw [andI_nat, Int.natCast_inj]
  exact mask_or n k j
theorem bit_div (n k : Nat) : (Z.divQ (n : Int) (.ofNat (2 ^ k))).fmod (.ofNat 2) = if n.testBit k = true then 1 else 0 := by
  rw [← Z.divQ_eq]
  show ((n : Int).fdiv ((2 ^ k : Nat) : Int)).fmod ((2 : Nat) : Int) = _
  rw [Int.fdiv_eq_ediv_of_nonneg _ (Int.natCast_nonneg _), Int.fmod_eq_emod_of_nonneg _ (Int.natCast_nonneg _)]
  rw [← Int.natCast_ediv, ← Int.natCast_emod]
  have : n.testBit k = decide (n / 2 ^ k % 2 = 1) := by
    rw [Nat.testBit_eq_decide_div_mod_eq]
  rw [this]
  rcases Nat.mod_two_eq_zero_or_one (n / 2 ^ k) with q | q <;> rw [q] <;> rfl

theorem pk1 (n k c : Nat) (x : Int) (hx : x = ((2 ^ k : Nat) : Int)) : pickC (n : Int) 45 [(x, x, c)] = if n.testBit k = true then c else 45 := by
  subst hx
  unfold pickC
  cases h : n.testBit k with
  | true => rw [if_pos ((andI_one n k).mpr h), if_pos rfl]
  | false => rw [if_neg (fun q => by rw [(andI_one n k).mp q] at h; cases h), if_neg Bool.false_ne_true]; rfl
theorem pk3 (n k j c d e : Nat) (x y z : Int) (hx : x = ((2 ^ k ||| 2 ^ j : Nat) : Int)) (hy : y = ((2 ^ j : Nat) : Int)) (hz : z = ((2 ^ k : Nat) : Int)) :
    pickC (n : Int) 45 [(x, x, c), (y, y, d), (z, z, e)] = if n.testBit k = true then (if n.testBit j = true then c else e) else if n.testBit j = true then d else 45 := by
  subst hx hy hz
  unfold pickC
  cases h1 : n.testBit k with
  | true =>
    rw [if_pos rfl]
    cases h2 : n.testBit j with
    | true => rw [if_pos ((andI_two n k j).mpr ⟨h1, h2⟩), if_pos rfl]
    | false =>
      rw [if_neg fun q => by rw [((andI_two n k j).mp q).2] at h2; cases h2]
      unfold pickC
      rw [if_neg fun q => by rw [(andI_one n j).mp q] at h2; cases h2]
      unfold pickC
      rw [if_pos ((andI_one n k).mpr h1), if_neg Bool.false_ne_true]
  | false =>
    rw [if_neg Bool.false_ne_true, if_neg fun q => by rw [((andI_two n k j).mp q).1] at h1; cases h1]
    unfold pickC
    cases h2 : n.testBit j with
    | true => rw [if_pos ((andI_one n j).mpr h2), if_pos rfl]
    | false =>
      rw [if_neg (fun q => by rw [(andI_one n j).mp q] at h2; cases h2), if_neg Bool.false_ne_true]
      unfold pickC
      rw [if_neg fun q => by rw [(andI_one n k).mp q] at h1; cases h1]
      rfl
noncomputable def grp (a b c s : Bool) : List Nat := (if a = true then [114] else []) ++ (if b = true then [119] else []) ++ (if c = true then (if s = true then [] else [120]) else [])
theorem grp_fil (a b c s : Bool) (t u : Nat) (ht : inR t = false) (hu : inR u = false) : List.filter inR [if a = true then 114 else 45, if b = true then 119 else 45, if c = true then (if s = true then t else 120) else if s = true then u else 45] = grp a b c s := by
  have e1 : ∀ x y z : Nat, List.filter inR [x, y, z] = List.filter inR [x] ++ List.filter inR [y] ++ List.filter inR [z] := fun x y z => by
    rw [← List.filter_append, ← List.filter_append]
    rfl
  have no : ∀ {x : Nat}, inR x = false → List.filter inR [x] = [] := fun h => List.filter_cons_of_neg (by rw [h]; exact Bool.false_ne_true)
  rw [e1]
  unfold grp
  refine congr (congrArg HAppend.hAppend (congr (congrArg HAppend.hAppend ?_) ?_)) ?_
  · cases a <;> rfl
  · cases b <;> rfl
  · cases c <;> cases s
    · rfl
    · exact no hu
    · rfl
    · exact no ht
theorem bit_eq (n k : Nat) : n.testBit k = decide (n / 2 ^ k % 2 = 1) := by rw [Nat.testBit_eq_decide_div_mod_eq]
theorem th_nat (n k : Nat) : th (n : Int) k = ((n / 8 ^ k % 8 : Nat) : Int) := by
  unfold th
  rw [← Z.divQ_eq]
  show ((n : Int).fdiv ((8 ^ k : Nat) : Int)).fmod ((8 : Nat) : Int) = _
  rw [Int.fdiv_eq_ediv_of_nonneg _ (Int.natCast_nonneg _), Int.fmod_eq_emod_of_nonneg _ (Int.natCast_nonneg _), ← Int.natCast_ediv, ← Int.natCast_emod]
theorem mul_of (x : Str) (b : Bool) : (mulS x (if b = true then 1 else 0)).cps.toList = if b = true then x.cps.toList else [] := by
  cases b <;> rfl
theorem sg1_list (s : Str) (x : Int) (k : Nat) : (sg1 s x k).cps.toList = s.cps.toList ++ ((mulS s114 (sgA x k)).cps.toList ++ (mulS s119 (sgB x k)).cps.toList ++ (mulS s120 (sgC x k)).cps.toList) := by
  unfold sg1 sgP
  show ((s.cps ++ ((mulS s114 (sgA x k)).cps ++ (mulS s119 (sgB x k)).cps)) ++ (mulS s120 (sgC x k)).cps).toList = _
  simp
theorem m84 (a : Nat) : a % 8 / 4 = a / 4 % 2 := Nat.mod_mul_right_div_self a 4 2
theorem m82 (a : Nat) : a % 8 / 2 % 2 = a / 2 % 2 := (congrArg (· % 2) (Nat.mod_mul_right_div_self a 2 4)).trans (Nat.mod_mod_of_dvd _ ⟨2, rfl⟩)
theorem m81 (a : Nat) : a % 8 % 2 = a % 2 := Nat.mod_mod_of_dvd a ⟨4, rfl⟩
theorem bit01 (x : Nat) : ((x % 2 : Nat) : Int) = if decide (x % 2 = 1) = true then 1 else 0 := by
  rcases Nat.mod_two_eq_zero_or_one x with q | q <;> rw [q] <;> rfl
theorem p84 (k : Nat) : 8 ^ k * 4 = 2 ^ (3 * k + 2) := by rw [Nat.pow_add, Nat.pow_mul]
theorem p82 (k : Nat) : 8 ^ k * 2 = 2 ^ (3 * k + 1) := by rw [Nat.pow_add, Nat.pow_mul]
theorem p81 (k : Nat) : 8 ^ k = 2 ^ (3 * k) := by rw [Nat.pow_mul]
theorem sgA_bit (n k : Nat) : sgA (n : Int) k = if n.testBit (3 * k + 2) = true then 1 else 0 := by
  unfold sgA
  rw [th_nat, ← Z.divQ_eq]
  show ((_ : Nat) : Int).fdiv ((4 : Nat) : Int) = _
  rw [Int.fdiv_eq_ediv_of_nonneg _ (Int.natCast_nonneg _), ← Int.natCast_ediv, bit_eq, m84, Nat.div_div_eq_div_mul, p84]
  exact bit01 _
theorem sgB_bit (n k : Nat) : sgB (n : Int) k = if n.testBit (3 * k + 1) = true then 1 else 0 := by
  unfold sgB
  rw [th_nat, ← Z.divQ_eq]
  show (((_ : Nat) : Int).fdiv ((2 : Nat) : Int)).fmod ((2 : Nat) : Int) = _
  rw [Int.fdiv_eq_ediv_of_nonneg _ (Int.natCast_nonneg _), ← Int.natCast_ediv, Int.fmod_eq_emod_of_nonneg _ (Int.natCast_nonneg _), ← Int.natCast_emod, bit_eq, m82, Nat.div_div_eq_div_mul, p82]
  exact bit01 _
theorem sgC_bit (n k : Nat) : sgC (n : Int) k = if (n.testBit (3 * k) && !(n.testBit (9 + k))) = true then 1 else 0 := by
  have e1 : Int.fmod (th (n : Int) k) 2 = if n.testBit (3 * k) = true then 1 else 0 := by
    rw [th_nat]
    show ((_ : Nat) : Int).fmod ((2 : Nat) : Int) = _
    rw [Int.fmod_eq_emod_of_nonneg _ (Int.natCast_nonneg _), ← Int.natCast_emod, bit_eq, m81, p81]
    exact bit01 _
  have e2 : sgH (n : Int) k = if n.testBit (9 + k) = true then 0 else 1 := by
    unfold sgH
    have z := bit_div n (9 + k)
    rw [show (Int.fmod (Z.divQ (n : Int) (.ofNat (2 ^ (9 + k)))) 2) = if n.testBit (9 + k) = true then 1 else 0 from z]
    split <;> rfl
  unfold sgC
  rw [e1, e2]
  cases n.testBit (3 * k) <;> cases n.testBit (9 + k) <;> rfl
theorem sg1_grp (s : Str) (n k : Nat) : (sg1 s (n : Int) k).cps.toList = s.cps.toList ++ grp (n.testBit (3 * k + 2)) (n.testBit (3 * k + 1)) (n.testBit (3 * k)) (n.testBit (9 + k)) := by
  rw [sg1_list, sgA_bit n k, sgB_bit n k, sgC_bit n k, mul_of, mul_of, mul_of]
  unfold grp
  have e : ∀ c s : Bool, (if (c && !s) = true then s120.cps.toList else []) = (if c = true then (if s = true then [] else [120]) else []) := fun c s => by cases c <;> cases s <;> rfl
  rw [e]
theorem sgS_list (n : Nat) : (sgS (n : Int)).cps.toList = grp (n.testBit 8) (n.testBit 7) (n.testBit 6) (n.testBit 11) ++ grp (n.testBit 5) (n.testBit 4) (n.testBit 3) (n.testBit 10) ++ grp (n.testBit 2) (n.testBit 1) (n.testBit 0) (n.testBit 9) := by
  unfold sgS
  rw [sg1_grp _ n 0, sg1_grp _ n 1, sg1_grp _ n 2]
  rfl
noncomputable def fm9 (n : Nat) : List Nat := [if n.testBit 8 = true then 114 else 45, if n.testBit 7 = true then 119 else 45, if n.testBit 6 = true then (if n.testBit 11 = true then 115 else 120) else if n.testBit 11 = true then 83 else 45,
  if n.testBit 5 = true then 114 else 45, if n.testBit 4 = true then 119 else 45, if n.testBit 3 = true then (if n.testBit 10 = true then 115 else 120) else if n.testBit 10 = true then 83 else 45,
  if n.testBit 2 = true then 114 else 45, if n.testBit 1 = true then 119 else 45, if n.testBit 0 = true then (if n.testBit 9 = true then 116 else 120) else if n.testBit 9 = true then 84 else 45]
theorem fmS_list (n : Nat) : (fmS (n : Int)).cps.toList.drop 1 = fm9 n := by
  unfold fm9
  rw [← pk1 n 8 114 256 rfl, ← pk1 n 7 119 128 rfl, ← pk3 n 6 11 115 83 120 2112 2048 64 rfl rfl rfl, ← pk1 n 5 114 32 rfl, ← pk1 n 4 119 16 rfl, ← pk3 n 3 10 115 83 120 1032 1024 8 rfl rfl rfl, ← pk1 n 2 114 4 rfl, ← pk1 n 1 119 2 rfl, ← pk3 n 0 9 116 84 120 513 512 1 rfl rfl rfl]
  rfl
theorem fm9_fil (n : Nat) : (fm9 n).filter inR = (sgS (n : Int)).cps.toList := by
  rw [sgS_list, ← grp_fil _ _ _ _ 115 83 (by decide) (by decide), ← grp_fil _ _ _ _ 115 83 (by decide) (by decide), ← grp_fil _ _ _ _ 116 84 (by decide) (by decide), ← List.filter_append, ← List.filter_append]
  rfl
theorem fm9_small (n : Nat) : ∀ c ∈ fm9 n, c < 128 := by
  have i : ∀ (b : Bool) {x y : Nat}, x < 128 → y < 128 → (if b = true then x else y) < 128 := fun b x y h1 h2 => by cases b <;> assumption
  have c : ∀ {x : Nat} {l : List Nat}, x < 128 → (∀ a ∈ l, a < 128) → ∀ a ∈ x :: l, a < 128 := fun h t a ha => by
    rcases List.mem_cons.mp ha with rfl | ha
    · exact h
    · exact t a ha
  have q : ∀ (b d : Bool) {x y : Nat}, x < 128 → y < 128 → (if b = true then (if d = true then x else 120) else if d = true then y else 45) < 128 := fun b d x y h1 h2 => i b (i d h1 (by decide)) (i d h2 (by decide))
  unfold fm9
  exact c (i _ (by decide) (by decide)) (c (i _ (by decide) (by decide)) (c (q _ _ (by decide) (by decide)) (c (i _ (by decide) (by decide)) (c (i _ (by decide) (by decide)) (c (q _ _ (by decide) (by decide)) (c (i _ (by decide) (by decide)) (c (i _ (by decide) (by decide)) (c (q _ _ (by decide) (by decide)) fun a h => nomatch h))))))))
theorem nm_nat (X : Nat → Int) (i : Nat) : ∃ n : Nat, nm X i = (n : Int) := by
  have h : 0 ≤ nm X i := Int.fmod_nonneg_of_pos _ (by decide)
  exact ⟨(nm X i).toNat, (Int.toNat_of_nonneg h).symm⟩
theorem shV_one (X : Nat → Int) (i : Nat) : ∃ n : Nat, nm X i = (n : Int) ∧ (slCut (fmS (nm X i)) (some (1, 0)) none).cps.toList = fm9 n := by
  obtain ⟨n, e⟩ := nm_nat X i
  refine ⟨n, e, ?_⟩
  rw [slCut9, e]
  exact fmS_list n
theorem fil_sg (X : Nat → Int) : ∀ l : List Nat, (catV (l.map fun i => .str (slCut (fmS (nm X i)) (some (1, 0)) none) 0)).filter inR = catV (l.map fun i => .str (sgS (nm X i)) 0)
  | [] => rfl
  | i :: l => by
    obtain ⟨n, e, h⟩ := shV_one X i
    show ((slCut (fmS (nm X i)) (some (1, 0)) none).cps.toList ++ catV _).filter inR = (sgS (nm X i)).cps.toList ++ catV _
    rw [List.filter_append, fil_sg X l, h, fm9_fil, e]
theorem filL_sgL (m : Nat) (X : Nat → Int) : filL (shS m X) = sgL m X := fil_sg X _
theorem sh_small (m : Nat) (X : Nat → Int) : (shS m X).cps.all (· < 128) = true := by
  have key : ∀ l : List Nat, ∀ c ∈ catV (l.map fun i => .str (slCut (fmS (nm X i)) (some (1, 0)) none) 0), c < 128 := by
    intro l
    induction l with
    | nil => exact fun c hc => nomatch hc
    | cons i l ih =>
      obtain ⟨n, e, h⟩ := shV_one X i
      intro c hc
      have hc' : c ∈ (slCut (fmS (nm X i)) (some (1, 0)) none).cps.toList ++ catV (l.map fun i => .str (slCut (fmS (nm X i)) (some (1, 0)) none) 0) := hc
      rcases List.mem_append.mp hc' with q | q
      · rw [h] at q
        exact fm9_small n c q
      · exact ih c q
  have e : (shS m X).cps = ⟨catV (shV m X fun _ => 0)⟩ := rfl
  rw [e, Array.all_eq_true]
  intro i hi
  exact decide_eq_true (key (List.range m) _ (by simp; exact List.getElem_mem _))
theorem sgL_rwx (m : Nat) (X : Nat → Int) : ∀ c ∈ sgL m X, c ∈ rwx := fun c hc => by
  rw [← filL_sgL] at hc
  exact filL_mem hc
end Mine
end
section
open PySem PySem.W PyProof.Rows PySem.W.X Mine
set_option Elab.async false
set_option maxRecDepth 100000
set_option maxHeartbeats 0
set_option linter.unusedVariables false
namespace Mine
noncomputable def hkInt2 (x : Str) : Hk := { nt := 2, nn := 0, res := fun tv _ => .ok (.ret (.int (.ofNat x.cps.toList.length) (tv.getD 1 0))), news := fun _ _ => [], upd := fun _ _ => [] }
theorem slen_spec (w : World) (x : Str) (tx : Nat) (hl : x.cps.toList.length ≤ 1000) : SpecC pr w (ktA w) 111 1 800 8000 (.builtin "len" ⟨[.str x tx], []⟩) [] [] (hkInt2 x) := by
  intro A h g d t os h1 h2 h3 hT hn ht hg hl' he hnd hfar
  have hs : (x.length : Int) < 2 ^ 63 := by
    have : x.length = x.cps.toList.length := by simp [Str.length]
    omega
  refine codeAny_builtin PySem.entry_len ?_
  rw [Around.under_plainId PySem.plain_len _]
  refine wpAny_mono (wpAny_len_body (s := ⟨h, g, d, t, os⟩) (n := (x.length : Int)) (Q := fun r s' => r = .int (x.length : Int) (t + 1) ∧ s' = ⟨h, g, d, t + 1 + 1, os⟩) rfl PySem.F.slot_str_len PySem.F.entry_str_len (PySem.F.args_str_len_1 _) (gives_str_len x tx) (by omega) (by omega) ⟨rfl, rfl⟩) (fun fin s' q => ?_) fun _ _ q => q
  obtain ⟨r, rfl, rfl, rfl⟩ := q
  have e : (x.length : Int) = .ofNat x.cps.toList.length := by simp [Str.length]
  rw [e]
  exact ⟨h, t + 1 + 1, [t, t + 1], [], rfl, by omega, rfl, rfl, fun x hx => by simp at hx; omega, rfl, Nat.le_refl _, fun b o e _ => e, fun i a x e _ => by simp [hkInt2] at *, fun i a o e => by simp at e, List.nodup_nil, fun x hx => (nomatch hx)⟩
noncomputable def slenG' (x : Str) (t : Nat) : GH := { needs := [], code := fun _ => .builtin "" ⟨[.str x t], []⟩, props := fun _ => [x.cps.toList.length ≤ 1000], objs := fun _ => [], hk := fun _ => hkInt2 x }
noncomputable def slenG (a : Args) : GH := strictS (pA a 0) slenG'
noncomputable def slenHook : Code → Option Hr := bHook 7300717 (len1 isStr) slenG
theorem slen_hook (w : World) : HookS pr w (ktA w) 111 1 800 8000 slenHook := by
  unfold slenHook
  rw [show slenG = fun a => slenG' (strOf (pA a 0)) (tokOf (pA a 0)) from funext fun a => strictS_eq _ _]
  exact bHook_n (name := "len") (by decide +kernel) 0 (fun _ _ => rfl) fun a f hp => slen_spec w _ _ (hp _ (.head _))
noncomputable def llenG (a : Args) : GH := { needs := [refA (pA a 0)], code := fun _ => .builtin "" ⟨[.ref (refA (pA a 0))], []⟩, props := fun l => [(sqAt (oAt l 0)).length ≤ 1000], objs := fun l => [liS (sqAt (oAt l 0)) (epAt (oAt l 0))], hk := fun l => strictL (oAt l 0) fun vs _ => hkLen vs }
noncomputable def llenHook : Code → Option Hr := bHook 7300717 (len1 isRef) llenG
theorem llen_hook (w : World) : HookS pr w (ktA w) 111 1 800 8000 llenHook :=
  bHook_n (name := "len") (by decide +kernel) 1 (fun _ _ => rfl) fun a f hp => by
    have eh : (llenG a).hk ((List.range 1).map f) = hkLen (sqAt (f 0)) := strictL_eq (f 0) (fun vs _ => hkLen vs)
    show SpecC _ _ _ _ _ _ _ _ _ _ { (llenG a).hk ((List.range 1).map f) with eqs := [] }
    rw [eh]
    exact len_spec w _ _ _ (hp _ (.head _))
noncomputable def eHook (w : World) : Code → Option Hr := orHook llenHook (orHook slenHook (orHook lastHook neHook))
theorem e_hook (w : World) : HookS pr w (ktA w) 111 1 430 4300 (eHook w) := ((llen_hook w).le (by decide) (by decide)).or (((slen_hook w).le (by decide) (by decide)).or (((last_hook w).le (by decide) (by decide)).or ((ne_hook w).le (by decide) (by decide))))
noncomputable def lgE (w : World) (sc Z L C ci cm ch cc : Addr) (k0 k1 k2 k3 : Nat) (X : Str) (tX : Nat) (E : Str) (tE : Nat) (vs : List Value) : List (Addr × Obj) := [(L, lwF2 w sc Z k0 k1 k2 k3 X tX E tE), (cc, celR C), (C, liS vs 0), (ch, celN), (cm, celN)]
section
variable (w : World) (sc Z L C ci cm ch cc : Addr) (k0 k1 k2 k3 : Nat) (X : Str) (tX : Nat) (E : Str) (tE : Nat) (vs : List Value) (h : Heap) (g : Array GenState) (d : Drawn) (os : OsState)
noncomputable def orcE4 (b1 b2 b3 : Bool) : List Nat := orcG w (trA w 4 3 1000002 1000003 1000004 1000005 1000006) encF (eHook w) (lgE w sc Z 1000002 1000007 1000003 1000004 1000005 1000006 k0 k1 k2 k3 X tX E tE vs) 410 4100 430 4300 g d os b1 b2 b3
noncomputable def rnE4 : RanT := ranT pr w 111 1 (ktA w) (lgE w sc Z L C ci cm ch cc k0 k1 k2 k3 X tX E tE vs) 410 4100 430 4300 h g d os (eHook w) NoE encF (trA w 4 3 L ci cm ch cc) 20000 (orcE4 w sc Z k0 k1 k2 k3 X tX E tE vs g d os)
end
noncomputable def hlf (x : Int) : Int := Z.divQ x 2
noncomputable abbrev lwF3 (w : World) (sc Z K : Addr) (k0 k1 k2 k3 k4 : Nat) (X : Str) (tX : Nat) (E : Str) (tE : Nat) : Obj := { cls := .type "frame", data := .dict #[rEnt w "script" k0 (.ref sc), rEnt w "numbers" k1 (.ref Z), rEnt w "shown" k2 (.str X tX), rEnt w "beads" k3 (.str E tE), rEnt w "cuts" k4 (.ref K)] 5 }
noncomputable def celI (x : Int) (t : Nat) : Obj := { cls := .type "cell", data := .cell (some (.int x t)) }
noncomputable def factsE (E : Str) (vs : List Value) : List Prop := [(Int.ofNat vs.length) = Int.ofNat (E.cps.toList.length + 1), E.cps.toList.length ≤ 1000, vs.length ≤ 1000, E.cps.toList.length ≤ 1000, LastOk vs]
noncomputable def obE (w : World) (sc Z C : Addr) (k0 k1 k2 k3 : Nat) (X : Str) (tX : Nat) (E : Str) (tE : Nat) (vs : List Value) (ad tk : Nat → Nat) : List Obj := [lwF3 w sc Z (ad 9) k0 k1 k2 k3 (tk 14) X tX E tE, celR C, liS vs 0, celI (hlf (lastI vs)) (tk 3), celI (hlf (.ofNat E.cps.toList.length)) (tk 7), liS [] 0]
noncomputable def ChkE (w : World) (sc Z L C ci cm ch cc : Addr) (k0 k1 k2 k3 : Nat) (X : Str) (tX : Nat) (E : Str) (tE : Nat) (vs : List Value) (h : Heap) (g : Array GenState) (d : Drawn) (os : OsState) : Prop := ∀ b1 b2 b3, tellG1 (rnE4 w sc Z L C ci cm ch cc k0 k1 k2 k3 X tX E tE vs h g d os) [0, 1, 2, 3, 4, 9] b1 b2 b3 = tellG2 (rnE4 w sc Z L C ci cm ch cc k0 k1 k2 k3 X tX E tE vs h g d os) 111 1 encF (fun _ tk => factsE E vs) (fun _ _ => .next) (obE w sc Z C k0 k1 k2 k3 X tX E tE vs) b1 b2 b3
section
variable {w : World} {sc Z L C ci cm ch cc : Addr} {k0 k1 k2 k3 : Nat} {X : Str} {tX : Nat} {E : Str} {tE : Nat} {vs : List Value} {h : Heap} {g : Array GenState} {d : Drawn} {os : OsState}
theorem s4_c : ChkE w sc Z L C ci cm ch cc k0 k1 k2 k3 X tX E tE vs h g d os := orc13 (by kernel_rfl)
noncomputable def lgE' (w : World) (sc Z L C K cm ch cc : Addr) (k0 k1 k2 k3 k4 : Nat) (X : Str) (tX : Nat) (E : Str) (tE : Nat) (vs : List Value) (th tm : Nat) : List (Addr × Obj) := [(L, lwF3 w sc Z K k0 k1 k2 k3 k4 X tX E tE), (cc, celR C), (C, liS vs 0), (ch, celI (hlf (lastI vs)) th), (cm, celI (hlf (.ofNat E.cps.toList.length)) tm), (K, liS [] 0)]
theorem s4_all {xs : List Addr} {h₀ : Heap} {t : Nat} {Q : Flow → Shared → Prop} (hlen : vs.length = E.cps.toList.length + 1) (hE : E.cps.toList.length ≤ 500) (hL : LastOk vs)
    (D : Lg xs h₀ h (lgE w sc Z L C ci cm ch cc k0 k1 k2 k3 X tX E tE vs)) (hT : TopOf (ktA w) h) (hn : 111 ≤ h₀.objs.size) (hx : ∀ a ∈ xs, (ktA w).get a = none) (ht : 1 ≤ t)
    (hq : ∀ h' t' K k4 th tm, 1 ≤ th → 1 ≤ tm → Lg xs h₀ h' (lgE' w sc Z L C K cm ch cc k0 k1 k2 k3 k4 X tX E tE vs th tm) → TopOf (ktA w) h' → 1 ≤ t' → Q .next ⟨h', g, d, t', os⟩) :
    wpAny (model pr w) (An 410 4100) (execs (((lwBody w).drop 4).take 3) (lwE w L ci cm ch cc)) Q NoE ⟨h, g, d, t, os⟩ := by
  refine tw_execs ?_
  refine led_goH encF 20000 (orcE4 w sc Z k0 k1 k2 k3 X tX E tE vs g d os) [0, 1, 2, 3, 4, 9] (fun _ tk => factsE E vs) (fun _ tk hk => allC (by rw [hlen]) (allC (by omega) (allC (by omega) (allC (by omega) (allC hL allN))))) (fun _ _ => .next) (obE w sc Z C k0 k1 k2 k3 X tX E tE vs) D hT hn (ktA_bound w) hx ht encF_inj (e_hook w) (by kernel_rfl) (by decide) s4_c fun h' t' ad tk had htk D' hT' ht' => ?_
  exact hq h' t' (ad 9) (tk 14) (tk 3) (tk 7) (htk _) (htk _) D' hT' ht'
end
end Mine
end
section
open PySem PySem.W PyProof.Rows PySem.W.X Mine
set_option Elab.async false
set_option maxRecDepth 100000
set_option maxHeartbeats 0
set_option linter.unusedVariables false
namespace Mine
noncomputable def exOf (s : Stmt) : PySem.Expr := match s with
  | .Expr v _ => v
  | _ => default
noncomputable def cuS (w : World) : Stmt := (lwBody w).getD 7 default
noncomputable def cuC (w : World) (L ci cm ch cc I : Addr) : Code := .forLoop (fTg (cuS w)) (.ref I) (fBd (cuS w)) [] (lwE w L ci cm ch cc)
noncomputable def cuE (w : World) : PySem.Expr := callArgI (exOf ((fBd (cuS w)).getD 0 default)) 0
noncomputable def uE (w : World) (L Lc ci cm ch cc : Addr) : Env :=
  { scope := { kind := .function, names := [(".0", .local), ("d", .local), ("counts", .cell), ("half", .cell), ("i", .cell), ("middle", .cell)], isGenerator := false, isCoroutine := false }, locals := Lc, globals := 3, cells := [("middle", cm), ("i", ci), ("half", ch), ("counts", cc)], qual := "law.<locals>.", func := none, code := .ref 109, frame := some L, builtins := 0 }
noncomputable def ccU (w : World) (L Lc ci cm ch cc it acc : Addr) : Code := .compLoop (cuE w) 0 (.ref it) (.ref acc) (uE w L Lc ci cm ch cc)
noncomputable def uO (w : World) : Option (Nat × Int × Nat) → Obj
  | none => fO0
  | some (k, x, t) => { cls := .type "dict", data := .dict #[rEnt w "d" k (.int x t)] 1 }
noncomputable def lgU (w : World) (C Lc ci cm ch cc it acc : Addr) (vs : List Value) (hf md i dx left : Int) (th tm ti : Nat) (A : List Value) (ep : Nat) (o : Option (Nat × Int × Nat)) : List (Addr × Obj) := [(it, riO dx left), (acc, liS A ep), (Lc, uO w o), (cc, celR C), (C, liS vs 0), (ch, celI hf th), (ci, celI i ti), (cm, celI md tm)]
noncomputable def uHook (w : World) (β : Bool) : Code → Option Hr := orHook rnextHook (orHook itemHook (orHook (eqHook β) lappHook))
theorem u_hook (w : World) (β : Bool) : HookS pr w (ktA w) 111 1 800 8000 (uHook w β) := (rnext_hook w).or ((item_hook w).or ((eq_hook w β).or (lapp_hook w)))
section
variable (w : World) (β : Bool) (L C Lc ci cm ch cc it acc : Addr) (vs : List Value) (hf md i dx left : Int) (th tm ti : Nat) (A : List Value) (ep : Nat) (o : Option (Nat × Int × Nat)) (h : Heap) (g : Array GenState) (d : Drawn) (os : OsState)
noncomputable def orcU (b1 b2 b3 : Bool) : List Nat := orcG w (DZ (ccU w 1000001 1000002 1000003 1000004 1000005 1000006 1000007 1000008)) encI (uHook w β) (lgU w 1000009 1000002 1000003 1000004 1000005 1000006 1000007 1000008 vs hf md i dx left th tm ti A ep o) 570 5700 800 8000 g d os b1 b2 b3
noncomputable def rnU : RanT := ranT pr w 111 1 (ktA w) (lgU w C Lc ci cm ch cc it acc vs hf md i dx left th tm ti A ep o) 570 5700 800 8000 h g d os (uHook w β) NoE encI (DZ (ccU w L Lc ci cm ch cc it acc)) 20000 (orcU w β vs hf md i dx left th tm ti A ep o g d os)
end
end Mine
end
section
open PySem PySem.W PyProof.Rows PySem.W.X Mine
set_option Elab.async false
set_option maxRecDepth 100000
set_option maxHeartbeats 0
set_option linter.unusedVariables false
namespace Mine
noncomputable def gI (vs : List Value) (k : Int) : Int := intOf (vs.getD k.toNat .none)
noncomputable def factsU (β : Bool) (vs : List Value) (hf md i dx left : Int) (A : List Value) : List Prop :=
  (match β with
   | true => [A.length ≤ 1000]
   | false => []) ++ [decide (gI vs (md + dx) - hf = gI vs (i + dx) - gI vs i) = β, ItemOk vs i, ItemOk vs (i + dx), ItemOk vs (md + dx), 0 < left]
noncomputable def tup2 (i dx : Int) (ti td : Nat) : Obj := { cls := .type "tuple", data := .seq #[.int i ti, .int dx td] 0 }
noncomputable def accU (β : Bool) (A : List Value) (a : Addr) : List Value := match β with
  | true => A ++ [.ref a]
  | false => A
noncomputable def obU (w : World) (β : Bool) (C : Addr) (vs : List Value) (hf md i dx left : Int) (th tm ti : Nat) (A : List Value) (ep : Nat) (kk : (Nat → Nat) → Nat) (ad tk : Nat → Nat) : List Obj :=
  [riO (dx + 1) (left - 1), liS (accU β A (ad 8)) (epF β ep), uO w (some (kk tk, dx, tk 0)), celR C, liS vs 0, celI hf th, celI i ti, celI md tm] ++ (match β with
   | true => [tup2 i dx ti (tk 0)]
   | false => [])
noncomputable def isU (β : Bool) : List Nat := [0, 1, 2, 3, 4, 5, 6, 7] ++ (match β with
   | true => [8]
   | false => [])
section
variable (w : World) (β : Bool) (L C Lc ci cm ch cc it acc : Addr) (vs : List Value) (hf md i dx left : Int) (th tm ti : Nat) (A : List Value) (ep : Nat) (o : Option (Nat × Int × Nat)) (kk : (Nat → Nat) → Nat) (h : Heap) (g : Array GenState) (d : Drawn) (os : OsState)
noncomputable def ChkU : Prop := ∀ b1 b2 b3, tellG1 (rnU w β L C Lc ci cm ch cc it acc vs hf md i dx left th tm ti A ep o h g d os) (isU β) b1 b2 b3 = tellG2 (rnU w β L C Lc ci cm ch cc it acc vs hf md i dx left th tm ti A ep o h g d os) 111 1 encI (fun _ _ => factsU β vs hf md i dx left A) (fun _ _ => .again (ccU w L Lc ci cm ch cc it acc)) (obU w β C vs hf md i dx left th tm ti A ep kk) b1 b2 b3
end
section
variable {w : World} {L C Lc ci cm ch cc it acc : Addr} {vs : List Value} {hf md i dx left : Int} {th tm ti : Nat} {A : List Value} {ep : Nat} {h : Heap} {g : Array GenState} {d : Drawn} {os : OsState}
theorem cu0 : ChkU w true L C Lc ci cm ch cc it acc vs hf md i dx left th tm ti A ep none (fun tk => tk 1) h g d os := orc13 (by kernel_rfl)
theorem cu1 : ChkU w false L C Lc ci cm ch cc it acc vs hf md i dx left th tm ti A ep none (fun tk => tk 1) h g d os := orc13 (by kernel_rfl)
theorem cu2 (k : Nat) (x : Int) (t : Nat) : ChkU w true L C Lc ci cm ch cc it acc vs hf md i dx left th tm ti A ep (some (k, x, t)) (fun tk => k) h g d os := orc13 (by kernel_rfl)
theorem cu3 (k : Nat) (x : Int) (t : Nat) : ChkU w false L C Lc ci cm ch cc it acc vs hf md i dx left th tm ti A ep (some (k, x, t)) (fun tk => k) h g d os := orc13 (by kernel_rfl)
theorem cu_any (β : Bool) (o : Option (Nat × Int × Nat)) : ∃ kk, ∀ h, ChkU w β L C Lc ci cm ch cc it acc vs hf md i dx left th tm ti A ep o kk h g d os := by
  match β, o with
  | true, none => exact ⟨_, fun h => cu0⟩
  | false, none => exact ⟨_, fun h => cu1⟩
  | true, some (k, x, t) => exact ⟨_, fun h => cu2 k x t⟩
  | false, some (k, x, t) => exact ⟨_, fun h => cu3 k x t⟩
end
end Mine
end
section
open PySem PySem.W PyProof.Rows PySem.W.X Mine
set_option Elab.async false
set_option maxRecDepth 100000
set_option maxHeartbeats 4000000
set_option linter.unusedVariables false
namespace Mine
theorem Lg.less2 {xs : List Addr} {h₀ h : Heap} {l l' : List (Addr × Obj)} (D : Lg xs h₀ h l) (s : l'.Sublist l) : Lg xs h₀ h l' :=
  D.sub (fun _ hp => s.mem hp) (D.nd.sublist (s.map _))
noncomputable def tpl (β : Bool) (a : Addr) (i dx : Int) (ti td : Nat) : List (Addr × Obj) := match β with
  | true => [(a, tup2 i dx ti td)]
  | false => []
noncomputable def firstM (P : Nat → Bool) : Nat → Nat → Option Nat
  | _, 0 => none
  | j, r + 1 => if P j then some j else firstM P (j + 1) r
section
variable {w : World} {L C Lc ci cm ch cc it acc : Addr} {vs : List Value} {hf md i : Int} {th tm ti : Nat} {xs : List Addr} {h₀ : Heap} {g : Array GenState} {d : Drawn} {os : OsState} {R : Result → Shared → Prop}
theorem cu_turn {β : Bool} {dx left : Int} {A : List Value} {ep : Nat} {o : Option (Nat × Int × Nat)} {h : Heap} {t : Nat} {M : List (Addr × Obj)} (hF : ∀ P ∈ factsU β vs hf md i dx left A, P)
    (D : Lg xs h₀ h (lgU w C Lc ci cm ch cc it acc vs hf md i dx left th tm ti A ep o ++ M)) (hT : TopOf (ktA w) h) (hn : 111 ≤ h₀.objs.size) (hx : ∀ a ∈ xs, (ktA w).get a = none) (ht : 1 ≤ t)
    (hq : ∀ h' t' k a td, Lg xs h₀ h' (lgU w C Lc ci cm ch cc it acc vs hf md i (dx + 1) (left - 1) th tm ti (accU β A a) (epF β ep) (some (k, dx, td)) ++ (tpl β a i dx ti td ++ M)) → TopOf (ktA w) h' → 1 ≤ t' → codeAny (model pr w) (An 570 5700) (ccU w L Lc ci cm ch cc it acc) R ⟨h', g, d, t', os⟩) :
    codeAny (model pr w) (An 570 5700) (ccU w L Lc ci cm ch cc it acc) R ⟨h, g, d, t, os⟩ := by
  obtain ⟨kk, H⟩ := cu_any (w := w) (L := L) (C := C) (Lc := Lc) (ci := ci) (cm := cm) (ch := ch) (cc := cc) (it := it) (acc := acc) (vs := vs) (hf := hf) (md := md) (i := i) (dx := dx) (left := left) (th := th) (tm := tm) (ti := ti) (A := A) (ep := ep) (g := g) (d := d) (os := os) β o
  refine loop_turn rfl ?_
  have B := D.base
  refine led_goG encI 20000 (orcU w β vs hf md i dx left th tm ti A ep o g d os) (isU β) (fun _ _ => factsU β vs hf md i dx left A) (fun _ _ => hF) (fun _ _ => .again (ccU w L Lc ci cm ch cc it acc)) (obU w β C vs hf md i dx left th tm ti A ep kk)
    B hT (Nat.le_trans hn D.size) (ktA_bound w) (D.outs hn hx) ht encI_inj (u_hook w β) ?_ (by cases β <;> decide) (H h) fun h' t' ad tk had htk D' hT' ht' => ?_
  · cases o <;> kernel_rfl
  · refine ⟨rfl, hq h' t' (kk tk) (ad 8) (tk 0) ?_ hT' ht'⟩
    rw [← List.append_assoc]
    cases β with
    | true => exact D.frame D'
    | false => exact D.frame D'
noncomputable def orcUE (w : World) (vs : List Value) (hf md i dx left : Int) (th tm ti : Nat) (A : List Value) (ep : Nat) (o : Option (Nat × Int × Nat)) (g : Array GenState) (d : Drawn) (os : OsState) (b1 b2 b3 : Bool) : List Nat :=
  orcG w (DZ (ccU w 1000001 1000002 1000003 1000004 1000005 1000006 1000007 1000008)) encI rnextEHook (lgU w 1000009 1000002 1000003 1000004 1000005 1000006 1000007 1000008 vs hf md i dx left th tm ti A ep o) 570 5700 800 8000 g d os b1 b2 b3
theorem cu_end {dx left : Int} {A : List Value} {ep : Nat} {o : Option (Nat × Int × Nat)} {h : Heap} {t : Nat} {M : List (Addr × Obj)} (hl : left ≤ 0)
    (D : Lg xs h₀ h (lgU w C Lc ci cm ch cc it acc vs hf md i dx left th tm ti A ep o ++ M)) (hT : TopOf (ktA w) h) (hn : 111 ≤ h₀.objs.size) (hx : ∀ a ∈ xs, (ktA w).get a = none) (ht : 1 ≤ t)
    (hq : ∀ h' t', Lg xs h₀ h' (lgU w C Lc ci cm ch cc it acc vs hf md i dx left th tm ti A ep o ++ M) → 1 ≤ t' → R (.ok .next) ⟨h', g, d, t', os⟩) :
    codeAny (model pr w) (An 570 5700) (ccU w L Lc ci cm ch cc it acc) R ⟨h, g, d, t, os⟩ := by
  refine loop_turn rfl ?_
  have B := D.base
  cases o with
  | none =>
    refine led_goG encI 20000 (orcUE w vs hf md i dx left th tm ti A ep none g d os) [0, 1, 2, 3, 4, 5, 6, 7] (fun _ _ => [left ≤ 0]) (fun _ _ => allC hl allN) (fun _ _ => .done .next) (fun ad tk => [riO dx left, liS A ep, uO w none, celR C, liS vs 0, celI hf th, celI i ti, celI md tm])
      B hT (Nat.le_trans hn D.size) (ktA_bound w) (D.outs hn hx) ht encI_inj (rnextE_hook w) (by kernel_rfl) (by decide) (orc13 (by kernel_rfl)) fun h' t' ad tk had htk D' hT' ht' => ?_
    exact hq h' t' (D.frame D') ht'
  | some q =>
    obtain ⟨k, x, tx⟩ := q
    refine led_goG encI 20000 (orcUE w vs hf md i dx left th tm ti A ep (some (k, x, tx)) g d os) [0, 1, 2, 3, 4, 5, 6, 7] (fun _ _ => [left ≤ 0]) (fun _ _ => allC hl allN) (fun _ _ => .done .next) (fun ad tk => [riO dx left, liS A ep, uO w (some (k, x, tx)), celR C, liS vs 0, celI hf th, celI i ti, celI md tm])
      B hT (Nat.le_trans hn D.size) (ktA_bound w) (D.outs hn hx) ht encI_inj (rnextE_hook w) (by kernel_rfl) (by decide) (orc13 (by kernel_rfl)) fun h' t' ad tk had htk D' hT' ht' => ?_
    exact hq h' t' (D.frame D') ht'
noncomputable def cutP (vs : List Value) (hf md i : Int) (dN : Nat) : Bool := decide (gI vs (md + dN) - hf = gI vs (i + dN) - gI vs i)
noncomputable def CutT (f : Option Nat) (i : Int) (ti : Nat) (refs : List Addr) (T : List (Addr × Obj)) : Prop := match f with
  | none => refs = [] ∧ T = []
  | some d0 => ∃ a0 rest td, refs = a0 :: rest ∧ T = [(a0, tup2 i d0 ti td)]
theorem cu_loop (hT0 : TopOf (ktA w) h₀) (hn : 111 ≤ h₀.objs.size) (hx : ∀ a ∈ xs, (ktA w).get a = none) {N : Nat} (hN : N ≤ 500) (hOi : ItemOk vs i) (hOk : ∀ dN : Nat, dN < N → ItemOk vs (i + dN) ∧ ItemOk vs (md + dN)) :
    ∀ (r j : Nat) (A : List Value) (ep : Nat) (o : Option (Nat × Int × Nat)) (M : List (Addr × Obj)) (h : Heap) (t : Nat), j + r = N → A.length ≤ j → 1 ≤ t → Lg xs h₀ h (lgU w C Lc ci cm ch cc it acc vs hf md i j r th tm ti A ep o ++ M) →
      (∀ h' t' refs ep' o' T, refs.length ≤ r → CutT (firstM (cutP vs hf md i) j r) i ti refs T → (refs = [] → ep' = ep) → (r = 0 → o' = o) → (r ≠ 0 → ∃ k td, o' = some (k, ((N - 1 : Nat) : Int), td)) → Lg xs h₀ h' (lgU w C Lc ci cm ch cc it acc vs hf md i (N : Nat) (0 : Nat) th tm ti (A ++ refs.map .ref) ep' o' ++ (T ++ M)) → 1 ≤ t' → R (.ok .next) ⟨h', g, d, t', os⟩) →
      codeAny (model pr w) (An 570 5700) (ccU w L Lc ci cm ch cc it acc) R ⟨h, g, d, t, os⟩ := by
  intro r
  induction r with
  | zero =>
    intro j A ep o M h t hj hA ht D hq
    have e : j = N := hj
    subst e
    refine cu_end (Int.le_refl _) D (hT0.keeps D.keep hx) hn hx ht fun h' t' D' ht' => ?_
    exact hq h' t' [] ep o [] (Nat.le_refl _) ⟨rfl, rfl⟩ (fun _ => rfl) (fun _ => rfl) (fun q => absurd rfl q) (by rw [List.map_nil, List.append_nil]; exact D') ht'
  | succ r ih =>
    intro j A ep o M h t hj hA ht D hq
    have hjN : j < N := by omega
    obtain ⟨o1, o2⟩ := hOk j hjN
    refine cu_turn (β := cutP vs hf md i j) (fun P hP => ?_) D (hT0.keeps D.keep hx) hn hx ht fun h' t' k a td D' hT' ht' => ?_
    · have tl : ∀ P ∈ [decide (gI vs (md + j) - hf = gI vs (i + j) - gI vs i) = cutP vs hf md i j, ItemOk vs i, ItemOk vs (i + j), ItemOk vs (md + j), (0 : Int) < ((r + 1 : Nat) : Int)], P := allC rfl (allC hOi (allC o1 (allC o2 (allC (by omega) allN))))
      unfold factsU at hP
      rcases List.mem_append.mp hP with hP | hP
      · cases hc : cutP vs hf md i j with
        | true =>
          rw [hc] at hP
          exact allC (by omega : A.length ≤ 1000) allN P hP
        | false =>
          rw [hc] at hP
          exact nomatch hP
      · exact tl P hP
    · have e1 : ((j : Int) + 1) = ((j + 1 : Nat) : Int) := rfl
      have e2 : (((r + 1 : Nat) : Int) - 1) = (r : Int) := Int.add_sub_cancel (r : Int) 1
      rw [e1, e2] at D'
      have lastO : ∀ {o'}, (r = 0 → o' = some (k, (j : Int), td)) → (r ≠ 0 → ∃ k td, o' = some (k, ((N - 1 : Nat) : Int), td)) → ∃ k td, o' = some (k, ((N - 1 : Nat) : Int), td) := fun {o'} b1 b2 => by
        by_cases q : r = 0
        · have e : j = N - 1 := by omega
          exact ⟨k, td, by rw [b1 q, ← e]⟩
        · exact b2 q
      cases hc : cutP vs hf md i j with
      | false =>
        rw [hc] at D'
        refine ih (j + 1) A ep (some (k, j, td)) M h' t' (by omega) (by omega) ht' D' fun h2 t2 refs ep' o' T a1 a2 a3 b1 b2 a4 a5 => ?_
        refine hq h2 t2 refs ep' o' T (by omega) ?_ a3 (fun q => nomatch q) (fun _ => lastO b1 b2) a4 a5
        show CutT (if cutP vs hf md i j = true then some j else firstM (cutP vs hf md i) (j + 1) r) i ti refs T
        rw [if_neg (by rw [hc]; exact Bool.false_ne_true)]
        exact a2
      | true =>
        rw [hc] at D'
        refine ih (j + 1) (A ++ [.ref a]) (ep + 1) (some (k, j, td)) ((a, tup2 i j ti td) :: M) h' t' (by omega) (by rw [List.length_append]; exact Nat.succ_le_succ hA) ht' D' fun h2 t2 refs ep' o' T a1 a2 a3 b1 b2 a4 a5 => ?_
        refine hq h2 t2 (a :: refs) ep' o' [(a, tup2 i j ti td)] (by rw [List.length_cons]; omega) ?_ (fun q => nomatch q) (fun q => nomatch q) (fun _ => lastO b1 b2) ?_ a5
        · show CutT (if cutP vs hf md i j = true then some j else firstM (cutP vs hf md i) (j + 1) r) i ti _ _
          rw [if_pos hc]
          exact ⟨a, refs, td, rfl, rfl⟩
        · have e3 : A ++ (a :: refs).map Value.ref = A ++ [.ref a] ++ refs.map .ref := by rw [List.map_cons, List.append_assoc]; rfl
          rw [e3]
          exact Lg.less2 a4 (List.Sublist.append (List.Sublist.refl _) (List.sublist_append_right _ _))
end
end Mine
end
section
open PySem PySem.W PyProof.Rows PySem.W.X Mine
set_option Elab.async false
set_option maxRecDepth 100000
set_option maxHeartbeats 4000000
set_option linter.unusedVariables false
namespace Mine
noncomputable def cutF (vs : List Value) (hf md i : Int) (N : Nat) : Option Nat := firstM (cutP vs hf md i) 0 N
noncomputable def cutD (vs : List Value) (hf md i : Int) (N : Nat) : Int := (((cutF vs hf md i N).getD 0 : Nat) : Int)
noncomputable def refsV (l : List Nat) : List Value := l.map fun a => .ref (a - 1)
theorem refsV_succ (l : List Addr) : refsV (l.map (· + 1)) = l.map .ref := by
  unfold refsV
  rw [List.map_map]
  rfl
theorem refs_code (l : List Addr) (h : l.length ≤ 30) : ∃ B n, 1 ≤ B ∧ 1 ≤ n ∧ refsV (decT B n (min l.length 30)) = l.map .ref := by
  rw [Nat.min_eq_left h]
  obtain ⟨B, n, hB, hn, e⟩ := enc_toks (l.map (· + 1)) (fun a ha => by
    obtain ⟨b, _, rfl⟩ := List.mem_map.mp ha
    exact Nat.le_add_left ..)
  rw [List.length_map] at e
  exact ⟨B, n, hB, hn, by rw [e, refsV_succ]⟩
noncomputable def uZ (w : World) (N : Nat) (tv : List Nat) : Obj := uO w (some (tv.getD 0 0 - 1, ((N - 1 : Nat) : Int), tv.getD 1 0 - 1))
noncomputable def keepC (C : Addr) (vs : List Value) (hf md i : Int) (th tm ti : Nat) : List Obj := [celR C, celI hf th, celI i ti, celI md tm, liS vs 0]
noncomputable def hkCf (w : World) (C : Addr) (vs : List Value) (hf md i : Int) (th tm ti : Nat) (N : Nat) : Hk := { nt := 2, nn := 0, res := fun _ _ => .ok .next, news := fun _ _ => [], upd := fun tv _ => riO (N : Nat) (0 : Nat) :: liS [] 0 :: uZ w N tv :: keepC C vs hf md i th tm ti }
noncomputable def hkCa (w : World) (C : Addr) (vs : List Value) (hf md i : Int) (th tm ti : Nat) (N : Nat) : Hk := { nt := 6, nn := 0, res := fun _ _ => .ok .next, news := fun _ _ => [], upd := fun tv _ => riO (N : Nat) (0 : Nat) :: liS (refsV (decT (tv.getD 2 0) (tv.getD 3 0) (min (tv.getD 4 0 - 1) 30))) (tv.getD 5 0 - 1) :: uZ w N tv :: keepC C vs hf md i th tm ti }
noncomputable def hkCt (w : World) (C : Addr) (vs : List Value) (hf md i : Int) (th tm ti : Nat) (N : Nat) : Hk := { nt := 7, nn := 1, res := fun _ _ => .ok .next, news := fun tv _ => [tup2 i (cutD vs hf md i N) ti (tv.getD 6 0 - 1)], upd := fun tv av => riO (N : Nat) (0 : Nat) :: liS (.ref (av.getD 0 0) :: refsV (decT (tv.getD 2 0) (tv.getD 3 0) (min (tv.getD 4 0 - 1) 30))) (tv.getD 5 0 - 1) :: uZ w N tv :: keepC C vs hf md i th tm ti }
section
variable (w : World) (L C Lc ci cm ch cc it acc : Addr) (vs : List Value) (hf md i : Int) (th tm ti : Nat)
noncomputable def obC (N : Nat) : List Obj := [riO 0 (N : Nat), liS [] 0, fO0, celR C, celI hf th, celI i ti, celI md tm, liS vs 0]
noncomputable def CutOk (vs : List Value) (md i : Int) (N : Nat) : Prop := 1 ≤ N ∧ N ≤ 30 ∧ ItemOk vs i ∧ ∀ dN : Nat, dN < N → ItemOk vs (i + dN) ∧ ItemOk vs (md + dN)
theorem cut_run {N : Nat} (hO : CutOk vs md i N) {σ : Hk} {A : Around} {h : Heap} {g : Array GenState} {d : Drawn} {t : Nat} {os : OsState} (a1 : An 570 5700 = (An 570 5700)) (hT : TopOf (ktA w) h) (hn : 111 ≤ h.objs.size) (ht : 1 ≤ t)
    (L0 : Lg [it, acc, Lc, cc, ch, ci, cm, C] h h ([it, acc, Lc, cc, ch, ci, cm, C].zip (obC C vs hf md i th tm ti N))) (hx : ∀ a ∈ [it, acc, Lc, cc, ch, ci, cm, C], (ktA w).get a = none)
    (fin : ∀ h' t' refs ep' k td T, refs.length ≤ N → CutT (cutF vs hf md i N) i ti refs T → (refs = [] → ep' = 0) → Lg [it, acc, Lc, cc, ch, ci, cm, C] h h' ([(it, riO (N : Nat) (0 : Nat)), (acc, liS (refs.map .ref) ep'), (Lc, uO w (some (k, ((N - 1 : Nat) : Int), td))), (cc, celR C), (ch, celI hf th), (ci, celI i ti), (cm, celI md tm), (C, liS vs 0)] ++ T) → 1 ≤ t' → PostC σ [it, acc, Lc, cc, ch, ci, cm, C] h g d os (.ok .next) ⟨h', g, d, t', os⟩) :
    codeAny (model pr w) (An 570 5700) (ccU w L Lc ci cm ch cc it acc) (PostC σ [it, acc, Lc, cc, ch, ci, cm, C] h g d os) ⟨h, g, d, t, os⟩ := by
  obtain ⟨h1, h2, h3, h4⟩ := hO
  have L1 : Lg [it, acc, Lc, cc, ch, ci, cm, C] h h (lgU w C Lc ci cm ch cc it acc vs hf md i ((0 : Nat) : Int) (N : Nat) th tm ti [] 0 none ++ []) := by
    rw [List.append_nil]
    refine L0.perm ?_
    show ([(it, riO 0 (N : Nat)), (acc, liS [] 0), (Lc, fO0), (cc, celR C), (C, liS vs 0), (ch, celI hf th), (ci, celI i ti), (cm, celI md tm)] : List (Addr × Obj)).Perm [(it, riO 0 (N : Nat)), (acc, liS [] 0), (Lc, fO0), (cc, celR C), (ch, celI hf th), (ci, celI i ti), (cm, celI md tm), (C, liS vs 0)]
    refine ((((List.Perm.refl _).cons _).cons _).cons _).trans ?_
    refine List.Perm.cons _ (List.Perm.cons _ (List.Perm.cons _ (List.Perm.cons _ ?_)))
    exact (List.Perm.swap _ _ _).trans (List.Perm.cons _ ((List.Perm.swap _ _ _).trans (List.Perm.cons _ (List.Perm.swap _ _ _))))
  refine cu_loop (xs := [it, acc, Lc, cc, ch, ci, cm, C]) (h₀ := h) hT hn hx (Nat.le_trans h2 (by decide)) h3 h4 N 0 [] 0 none [] h t (Nat.zero_add N) (Nat.zero_le _) ht L1 fun h' t' refs ep' o' T b1 b2 b3 _ b4 D ht' => ?_
  obtain ⟨k, td, rfl⟩ := b4 (by omega)
  refine fin h' t' refs ep' k td T b1 b2 b3 ?_ ht'
  rw [List.append_nil] at D
  refine D.perm ?_
  refine List.Perm.append_right _ ?_
  refine List.Perm.cons _ (List.Perm.cons _ (List.Perm.cons _ (List.Perm.cons _ ?_)))
  exact (((List.Perm.swap _ _ _).trans (List.Perm.cons _ ((List.Perm.swap _ _ _).trans (List.Perm.cons _ (List.Perm.swap _ _ _)))))).symm
theorem cutf_spec {N : Nat} (hO : CutOk vs md i N) (hc : cutF vs hf md i N = none) : SpecC pr w (ktA w) 111 1 570 5700 (ccU w L Lc ci cm ch cc it acc) [it, acc, Lc, cc, ch, ci, cm, C] (obC C vs hf md i th tm ti N) (hkCf w C vs hf md i th tm ti N) := by
  intro A h g d t os a1 a2 a3 hT hn ht hg hlo _ hnd hf'
  show codeAny (model pr w) A _ (PostC (hkCf w C vs hf md i th tm ti N) [it, acc, Lc, cc, ch, ci, cm, C] h g d os) _
  refine code_An (d := 570) (u := 5700) a1 a2 a3 ?_
  refine cut_run w L C Lc ci cm ch cc it acc vs hf md i th tm ti hO (A := A) rfl hT hn ht (Lg.ofSpec hg hlo hnd) hf' fun h' t' refs ep' k td T b1 b2 b3 D ht' => ?_
  rw [hc] at b2
  obtain ⟨rfl, rfl⟩ := b2
  have e := b3 rfl
  subst e
  refine ⟨h', t', [k + 1, td + 1], [], rfl, ht', rfl, rfl, geC (geS _) (geC (geS _) geN), rfl, ?_⟩
  · exact Lg.after (upd := (hkCf w C vs hf md i th tm ti N).upd [k + 1, td + 1] []) D rfl rfl
theorem cuta_spec {N : Nat} (hO : CutOk vs md i N) : SpecC pr w (ktA w) 111 1 570 5700 (ccU w L Lc ci cm ch cc it acc) [it, acc, Lc, cc, ch, ci, cm, C] (obC C vs hf md i th tm ti N) (hkCa w C vs hf md i th tm ti N) := by
  intro A h g d t os a1 a2 a3 hT hn ht hg hlo _ hnd hf'
  show codeAny (model pr w) A _ (PostC (hkCa w C vs hf md i th tm ti N) [it, acc, Lc, cc, ch, ci, cm, C] h g d os) _
  refine code_An (d := 570) (u := 5700) a1 a2 a3 ?_
  refine cut_run w L C Lc ci cm ch cc it acc vs hf md i th tm ti hO (A := A) rfl hT hn ht (Lg.ofSpec hg hlo hnd) hf' fun h' t' refs ep' k td T b1 b2 b3 D ht' => ?_
  obtain ⟨B, n, hB, hn1, e⟩ := refs_code refs (Nat.le_trans b1 hO.2.1)
  refine ⟨h', t', [k + 1, td + 1, B, n, refs.length + 1, ep' + 1], [], rfl, ht', rfl, rfl, geC (geS _) (geC (geS _) (geC hB (geC hn1 (geC (geS _) (geC (geS _) geN))))), rfl, ?_⟩
  · have D2 := Lg.less2 D (List.sublist_append_left _ T)
    rw [← e] at D2
    refine Lg.after (upd := (hkCa w C vs hf md i th tm ti N).upd [k + 1, td + 1, B, n, refs.length + 1, ep' + 1] []) ?_ rfl rfl
    rw [List.zip_nil_left, List.append_nil]
    exact D2
theorem cutt_spec {N : Nat} (hO : CutOk vs md i N) (hc : (cutF vs hf md i N).isSome = true) : SpecC pr w (ktA w) 111 1 570 5700 (ccU w L Lc ci cm ch cc it acc) [it, acc, Lc, cc, ch, ci, cm, C] (obC C vs hf md i th tm ti N) (hkCt w C vs hf md i th tm ti N) := by
  intro A h g d t os a1 a2 a3 hT hn ht hg hlo _ hnd hf'
  show codeAny (model pr w) A _ (PostC (hkCt w C vs hf md i th tm ti N) [it, acc, Lc, cc, ch, ci, cm, C] h g d os) _
  refine code_An (d := 570) (u := 5700) a1 a2 a3 ?_
  refine cut_run w L C Lc ci cm ch cc it acc vs hf md i th tm ti hO (A := A) rfl hT hn ht (Lg.ofSpec hg hlo hnd) hf' fun h' t' refs ep' k td T b1 b2 b3 D ht' => ?_
  obtain ⟨d0, hd⟩ := Option.isSome_iff_exists.mp hc
  have ed : cutD vs hf md i N = d0 := by unfold cutD; rw [hd]; rfl
  rw [hd] at b2
  obtain ⟨a0, rest, td0, rfl, rfl⟩ := b2
  obtain ⟨B, n, hB, hn1, e⟩ := refs_code rest (by have := hO.2.1; rw [List.length_cons] at b1; omega)
  refine ⟨h', t', [k + 1, td + 1, B, n, rest.length + 1, ep' + 1, td0 + 1], [a0], rfl, ht', rfl, rfl, geC (geS _) (geC (geS _) (geC hB (geC hn1 (geC (geS _) (geC (geS _) (geC (geS _) geN)))))), rfl, ?_⟩
  · rw [List.map_cons, ← e, ← ed] at D
    exact Lg.after (upd := (hkCt w C vs hf md i th tm ti N).upd [k + 1, td + 1, B, n, rest.length + 1, ep' + 1, td0 + 1] [a0]) (av := [a0]) (news := [tup2 i (cutD vs hf md i N) ti td0]) D rfl rfl
end
end Mine
end
section
open PySem PySem.W PyProof.Rows PySem.W.X Mine
set_option Elab.async false
set_option maxRecDepth 100000
set_option maxHeartbeats 4000000
set_option linter.unusedVariables false
namespace Mine
inductive CutK
  | f
  | a
  | t
noncomputable def celV (o : Obj) : Value := match o.data with
  | .cell (some v) => v
  | _ => .none
noncomputable def hkC (w : World) (κ : CutK) (C : Addr) (vs : List Value) (hf md i : Int) (th tm ti : Nat) (N : Nat) : Hk := match κ with
  | .f => hkCf w C vs hf md i th tm ti N
  | .a => hkCa w C vs hf md i th tm ti N
  | .t => hkCt w C vs hf md i th tm ti N
noncomputable def propC (κ : CutK) (vs : List Value) (hf md i : Int) (N : Nat) : Prop := match κ with
  | .f => cutF vs hf md i N = none
  | .a => True
  | .t => (cutF vs hf md i N).isSome = true
theorem cut_spec (w : World) (κ : CutK) (L C Lc ci cm ch cc it acc : Addr) (vs : List Value) (hf md i : Int) (th tm ti : Nat) {left : Int} (hl : left = ((left.toNat : Nat) : Int)) (hO : CutOk vs md i left.toNat) (hc : propC κ vs hf md i left.toNat) :
    SpecC pr w (ktA w) 111 1 570 5700 (ccU w L Lc ci cm ch cc it acc) [it, acc, Lc, cc, ch, ci, cm, C] [riO 0 left, liS [] 0, fO0, celR C, celI hf th, celI i ti, celI md tm, liS vs 0] (hkC w κ C vs hf md i th tm ti left.toNat) := by
  have e : ([riO 0 left, liS [] 0, fO0, celR C, celI hf th, celI i ti, celI md tm, liS vs 0] : List Obj) = obC C vs hf md i th tm ti left.toNat := by
    show _ = [riO 0 ((left.toNat : Nat) : Int), _, _, _, _, _, _, _]
    rw [← hl]
  rw [e]
  cases κ with
  | f => exact cutf_spec w L C Lc ci cm ch cc it acc vs hf md i th tm ti hO hc
  | a => exact cuta_spec w L C Lc ci cm ch cc it acc vs hf md i th tm ti hO
  | t => exact cutt_spec w L C Lc ci cm ch cc it acc vs hf md i th tm ti hO hc
noncomputable def cutG (w : World) (κ : CutK) (c : Code) : GH :=
  { needs := [clI c, clA c, (clE c).locals, clC c 3, clC c 2, clC c 1, clC c 0], more := [fun l => [refA (celV (oAt l 3))]], code := fun _ => ccU w (clL c) (clE c).locals (clC c 1) (clC c 0) (clC c 2) (clC c 3) (clI c) (clA c),
    props := fun l => [intOf (fiAt (oAt l 0) 1) = (((intOf (fiAt (oAt l 0) 1)).toNat : Nat) : Int), CutOk (sqAt (oAt l 7)) (intOf (celV (oAt l 6))) (intOf (celV (oAt l 5))) (intOf (fiAt (oAt l 0) 1)).toNat, propC κ (sqAt (oAt l 7)) (intOf (celV (oAt l 4))) (intOf (celV (oAt l 6))) (intOf (celV (oAt l 5))) (intOf (fiAt (oAt l 0) 1)).toNat],
    objs := fun l => [riO 0 (intOf (fiAt (oAt l 0) 1)), liS [] 0, fO0, celR (refA (celV (oAt l 3))), celI (intOf (celV (oAt l 4))) (tokOf (celV (oAt l 4))), celI (intOf (celV (oAt l 5))) (tokOf (celV (oAt l 5))), celI (intOf (celV (oAt l 6))) (tokOf (celV (oAt l 6))), liS (sqAt (oAt l 7)) 0],
    hk := fun l => strictI (fiAt (oAt l 0) 1) fun n _ => strictR (celV (oAt l 3)) fun C => strictL (oAt l 7) fun vs _ => strictI (celV (oAt l 4)) fun hf th => strictI (celV (oAt l 6)) fun md tm => strictI (celV (oAt l 5)) fun i ti => hkC w κ C vs hf md i th tm ti n.toNat }
noncomputable def cutHook (w : World) (κ : CutK) : Code → Option Hr := cHook (isCl 109 20) (cutG w κ)
theorem cut_hook (w : World) (κ : CutK) : HookS pr w (ktA w) 111 1 570 5700 (cutHook w κ) := cHook_n 8 (fun _ _ => rfl) fun c f hp => by
  have eh : (cutG w κ c).hk ((List.range 8).map f) = hkC w κ (refA (celV (f 3))) (sqAt (f 7)) (intOf (celV (f 4))) (intOf (celV (f 6))) (intOf (celV (f 5))) (tokOf (celV (f 4))) (tokOf (celV (f 6))) (tokOf (celV (f 5))) (intOf (fiAt (f 0) 1)).toNat := by
    show (strictI (fiAt (f 0) 1) fun n _ => strictR (celV (f 3)) fun C => strictL (f 7) fun vs _ => strictI (celV (f 4)) fun hf th => strictI (celV (f 6)) fun md tm => strictI (celV (f 5)) fun i ti => hkC w κ C vs hf md i th tm ti n.toNat) = _
    rw [strictI_eq, strictR_eq, strictL_eq, strictI_eq, strictI_eq, strictI_eq]
  show SpecC _ _ _ _ _ _ _ _ _ _ { (cutG w κ c).hk ((List.range 8).map f) with eqs := [] }
  rw [eh]
  have z := cut_spec w κ (clL c) (refA (celV (f 3))) (clE c).locals (clC c 1) (clC c 0) (clC c 2) (clC c 3) (clI c) (clA c) (sqAt (f 7)) (intOf (celV (f 4))) (intOf (celV (f 6))) (intOf (celV (f 5))) (tokOf (celV (f 4))) (tokOf (celV (f 6))) (tokOf (celV (f 5))) (left := intOf (fiAt (f 0) 1)) (hp _ (.head _)) (hp _ (.tail _ (.head _))) (hp _ (.tail _ (.tail _ (.head _))))
  cases κ <;> exact z
end Mine
end
section
open PySem PySem.W PyProof.Rows PySem.W.X Mine
set_option Elab.async false
set_option maxRecDepth 100000
set_option maxHeartbeats 4000000
set_option linter.unusedVariables false
namespace Mine
noncomputable def celO : Option (Int × Nat) → Obj
  | none => celN
  | some (x, t) => celI x t
noncomputable def lgT (w : World) (sc Z L C K ci cm ch cc I : Addr) (k0 k1 k2 k3 k4 : Nat) (X : Str) (tX : Nat) (E : Str) (tE : Nat) (vs : List Value) (hf md i left : Int) (th tm : Nat) (A : List Value) (ep : Nat) (o : Option (Int × Nat)) : List (Addr × Obj) := [(I, riO i left), (K, liS A ep), (ci, celO o), (L, lwF3 w sc Z K k0 k1 k2 k3 k4 X tX E tE), (cc, celR C), (C, liS vs 0), (ch, celI hf th), (cm, celI md tm)]
noncomputable def tHook (w : World) (κ : CutK) : Code → Option Hr := orHook rnextHook (orHook ritHook (orHook (cutHook w κ) lextHook))
theorem t_hook (w : World) (κ : CutK) : HookS pr w (ktA w) 111 1 560 5600 (tHook w κ) := ((rnext_hook w).le (by decide) (by decide)).or (((rit_hook w).le (by decide) (by decide)).or (((cut_hook w κ).le (by decide) (by decide)).or ((lext_hook w).le (by decide) (by decide))))
section
variable (w : World) (κ : CutK) (sc Z L C K ci cm ch cc I : Addr) (k0 k1 k2 k3 k4 : Nat) (X : Str) (tX : Nat) (E : Str) (tE : Nat) (vs : List Value) (hf md i left : Int) (th tm : Nat) (A : List Value) (ep : Nat) (o : Option (Int × Nat)) (h : Heap) (g : Array GenState) (d : Drawn) (os : OsState)
noncomputable def orcT (b1 b2 b3 : Bool) : List Nat := orcG w (DZ (cuC w 1000002 1000003 1000004 1000005 1000006 1000007)) encI (tHook w κ) (lgT w sc Z 1000002 1000008 1000009 1000003 1000004 1000005 1000006 1000007 k0 k1 k2 k3 k4 X tX E tE vs hf md i left th tm A ep o) 440 4400 560 5600 g d os b1 b2 b3
noncomputable def rnT : RanT := ranT pr w 111 1 (ktA w) (lgT w sc Z L C K ci cm ch cc I k0 k1 k2 k3 k4 X tX E tE vs hf md i left th tm A ep o) 440 4400 560 5600 h g d os (tHook w κ) NoE encI (DZ (cuC w L ci cm ch cc I)) 20000 (orcT w κ sc Z k0 k1 k2 k3 k4 X tX E tE vs hf md i left th tm A ep o g d os)
end
end Mine
end
section
open PySem PySem.W PyProof.Rows PySem.W.X Mine
set_option Elab.async false
set_option maxRecDepth 100000
set_option maxHeartbeats 4000000
set_option linter.unusedVariables false
namespace Mine
noncomputable def wsT (κ : CutK) (ad tk : Nat → Nat) : List Value := match κ with
  | .f => []
  | .a => refsV (decT (tk 7) (tk 8) (min (tk 9 - 1) 30))
  | .t => .ref (ad 12) :: refsV (decT (tk 7) (tk 8) (min (tk 9 - 1) 30))
noncomputable def factsT (κ : CutK) (vs : List Value) (hf md i left : Int) (A : List Value) (ad tk : Nat → Nat) : List Prop :=
  [(wsT κ ad tk).length ≤ 1000, A.length ≤ 2000, propC κ vs hf md i (md + 1).toNat, CutOk vs md i (md + 1).toNat, (md + 1) = (((md + 1).toNat : Nat) : Int), md + 1 ≤ 1000, 0 ≤ md + 1, 0 < left]
noncomputable def epT (κ : CutK) (ws : List Value) (ep : Nat) : Nat := match κ with
  | .f => ep
  | .a => if ws.length = 0 then ep else ep + 1
  | .t => ep + 1
noncomputable def obT (w : World) (κ : CutK) (sc Z C K : Addr) (k0 k1 k2 k3 k4 : Nat) (X : Str) (tX : Nat) (E : Str) (tE : Nat) (vs : List Value) (hf md i left : Int) (th tm : Nat) (A : List Value) (ep : Nat) (ad tk : Nat → Nat) : List Obj :=
  [riO (i + 1) (left - 1), liS (A ++ wsT κ ad tk) (epT κ (wsT κ ad tk) ep), celI i (tk 0), lwF3 w sc Z K k0 k1 k2 k3 k4 X tX E tE, celR C, liS vs 0, celI hf th, celI md tm] ++ (match κ with
   | .t => [tup2 i (cutD vs hf md i (md + 1).toNat) (tk 0) (tk 11 - 1)]
   | _ => [])
noncomputable def isT (κ : CutK) : List Nat := [0, 1, 2, 3, 4, 5, 6, 7] ++ (match κ with
   | .t => [12]
   | _ => [])
section
variable (w : World) (κ : CutK) (sc Z L C K ci cm ch cc I : Addr) (k0 k1 k2 k3 k4 : Nat) (X : Str) (tX : Nat) (E : Str) (tE : Nat) (vs : List Value) (hf md i left : Int) (th tm : Nat) (A : List Value) (ep : Nat) (o : Option (Int × Nat)) (h : Heap) (g : Array GenState) (d : Drawn) (os : OsState)
noncomputable def ChkT : Prop := ∀ b1 b2 b3, tellG1 (rnT w κ sc Z L C K ci cm ch cc I k0 k1 k2 k3 k4 X tX E tE vs hf md i left th tm A ep o h g d os) (isT κ) b1 b2 b3 = tellG2 (rnT w κ sc Z L C K ci cm ch cc I k0 k1 k2 k3 k4 X tX E tE vs hf md i left th tm A ep o h g d os) 111 1 encI (fun ad tk => factsT κ vs hf md i left A ad tk) (fun _ _ => .again (cuC w L ci cm ch cc I)) (obT w κ sc Z C K k0 k1 k2 k3 k4 X tX E tE vs hf md i left th tm A ep) b1 b2 b3
end
section
variable {w : World} {sc Z L C K ci cm ch cc I : Addr} {k0 k1 k2 k3 k4 : Nat} {X : Str} {tX : Nat} {E : Str} {tE : Nat} {vs : List Value} {hf md i left : Int} {th tm : Nat} {A : List Value} {ep : Nat} {h : Heap} {g : Array GenState} {d : Drawn} {os : OsState}
theorem ct0 : ChkT w .t sc Z L C K ci cm ch cc I k0 k1 k2 k3 k4 X tX E tE vs hf md i left th tm A ep none h g d os := orc13 (by kernel_rfl)
theorem ct1 (x : Int) (t : Nat) : ChkT w .t sc Z L C K ci cm ch cc I k0 k1 k2 k3 k4 X tX E tE vs hf md i left th tm A ep (some (x, t)) h g d os := orc13 (by kernel_rfl)
theorem ct2 : ChkT w .f sc Z L C K ci cm ch cc I k0 k1 k2 k3 k4 X tX E tE vs hf md i left th tm A ep none h g d os := orc13 (by kernel_rfl)
theorem ct3 (x : Int) (t : Nat) : ChkT w .f sc Z L C K ci cm ch cc I k0 k1 k2 k3 k4 X tX E tE vs hf md i left th tm A ep (some (x, t)) h g d os := orc13 (by kernel_rfl)
theorem ct4 (x : Int) (t : Nat) : ChkT w .a sc Z L C K ci cm ch cc I k0 k1 k2 k3 k4 X tX E tE vs hf md i left th tm A ep (some (x, t)) h g d os := orc13 (by kernel_rfl)
end
end Mine
end
section
open PySem PySem.W PyProof.Rows PySem.W.X Mine
set_option Elab.async false
set_option maxRecDepth 100000
set_option maxHeartbeats 4000000
set_option linter.unusedVariables false
namespace Mine
noncomputable def WsOk (κ : CutK) (a : Addr) (ws : List Value) : Prop := match κ with
  | .f => ws = []
  | .a => ∃ l : List Addr, ws = l.map .ref
  | .t => ∃ l : List Addr, ws = .ref a :: l.map .ref
noncomputable def tplT (κ : CutK) (a : Addr) (i dx : Int) (ti td : Nat) : List (Addr × Obj) := match κ with
  | .t => [(a, tup2 i dx ti td)]
  | _ => []
theorem wsT_ok (κ : CutK) (ad tk : Nat → Nat) : WsOk κ (ad 12) (wsT κ ad tk) ∧ (wsT κ ad tk).length ≤ 31 := by
  have z : ∀ B n m, (refsV (decT B n (min m 30))).length ≤ 30 := fun B n m => by
    unfold refsV
    rw [List.length_map, decT_len]
    exact Nat.min_le_right _ _
  cases κ with
  | f => exact ⟨rfl, Nat.zero_le _⟩
  | a => exact ⟨⟨_, (List.map_map (f := (· - 1)) (g := Value.ref)).symm⟩, Nat.le_succ_of_le (z _ _ _)⟩
  | t => exact ⟨⟨_, congrArg (List.cons _) (List.map_map (f := (· - 1)) (g := Value.ref)).symm⟩, Nat.succ_le_succ (z _ _ _)⟩
section
variable {w : World} {sc Z L C K ci cm ch cc I : Addr} {k0 k1 k2 k3 k4 : Nat} {X : Str} {tX : Nat} {E : Str} {tE : Nat} {vs : List Value} {hf md : Int} {th tm : Nat} {xs : List Addr} {h₀ : Heap} {g : Array GenState} {d : Drawn} {os : OsState} {R : Result → Shared → Prop}
theorem ct_any {κ : CutK} {i left : Int} {A : List Value} {ep : Nat} {o : Option (Int × Nat)} (ho : κ = .a → o.isSome = true) (h : Heap) : ChkT w κ sc Z L C K ci cm ch cc I k0 k1 k2 k3 k4 X tX E tE vs hf md i left th tm A ep o h g d os := by
  match κ, o, ho with
  | .t, none, _ => exact ct0
  | .t, some (x, t), _ => exact ct1 x t
  | .f, none, _ => exact ct2
  | .f, some (x, t), _ => exact ct3 x t
  | .a, some (x, t), _ => exact ct4 x t
  | .a, none, ho => exact nomatch ho rfl
theorem ct_turn {κ : CutK} {i left : Int} {A : List Value} {ep : Nat} {o : Option (Int × Nat)} (ho : κ = .a → o.isSome = true) {h : Heap} {t : Nat} {M : List (Addr × Obj)}
    (hA : A.length ≤ 2000) (hP : propC κ vs hf md i (md + 1).toNat) (hC : CutOk vs md i (md + 1).toNat) (hm : 0 ≤ md) (hm2 : md ≤ 500) (hl : 0 < left)
    (D : Lg xs h₀ h (lgT w sc Z L C K ci cm ch cc I k0 k1 k2 k3 k4 X tX E tE vs hf md i left th tm A ep o ++ M)) (hT : TopOf (ktA w) h) (hn : 111 ≤ h₀.objs.size) (hx : ∀ a ∈ xs, (ktA w).get a = none) (ht : 1 ≤ t)
    (hq : ∀ h' t' a ws ep' ti td, WsOk κ a ws → ws.length ≤ 31 → Lg xs h₀ h' (lgT w sc Z L C K ci cm ch cc I k0 k1 k2 k3 k4 X tX E tE vs hf md (i + 1) (left - 1) th tm (A ++ ws) ep' (some (i, ti)) ++ (tplT κ a i (cutD vs hf md i (md + 1).toNat) ti td ++ M)) → TopOf (ktA w) h' → 1 ≤ t' → codeAny (model pr w) (An 440 4400) (cuC w L ci cm ch cc I) R ⟨h', g, d, t', os⟩) :
    codeAny (model pr w) (An 440 4400) (cuC w L ci cm ch cc I) R ⟨h, g, d, t, os⟩ := by
  refine loop_turn rfl ?_
  have B := D.base
  refine led_goG encI 20000 (orcT w κ sc Z k0 k1 k2 k3 k4 X tX E tE vs hf md i left th tm A ep o g d os) (isT κ) (fun ad tk => factsT κ vs hf md i left A ad tk) (fun ad tk => allC (Nat.le_trans (wsT_ok κ ad tk).2 (by decide)) (allC hA (allC hP (allC hC (allC (by omega) (allC (by omega) (allC (by omega) (allC hl allN)))))))) (fun _ _ => .again (cuC w L ci cm ch cc I)) (obT w κ sc Z C K k0 k1 k2 k3 k4 X tX E tE vs hf md i left th tm A ep)
    B hT (Nat.le_trans hn D.size) (ktA_bound w) (D.outs hn hx) ht encI_inj (t_hook w κ) ?_ (by cases κ <;> decide) (ct_any ho h) fun h' t' ad tk had htk D' hT' ht' => ?_
  · cases o <;> kernel_rfl
  · refine ⟨rfl, hq h' t' (ad 12) (wsT κ ad tk) (epT κ (wsT κ ad tk) ep) (tk 0) (tk 11 - 1) (wsT_ok κ ad tk).1 (wsT_ok κ ad tk).2 ?_ hT' ht'⟩
    rw [← List.append_assoc]
    cases κ with
    | t => exact D.frame D'
    | a => exact D.frame D'
    | f => exact D.frame D'
end
end Mine
end
section
open PySem PySem.W PyProof.Rows PySem.W.X Mine
set_option Elab.async false
set_option maxRecDepth 100000
set_option maxHeartbeats 4000000
set_option linter.unusedVariables false
namespace Mine
noncomputable def orcTE (w : World) (sc Z : Addr) (k0 k1 k2 k3 k4 : Nat) (X : Str) (tX : Nat) (E : Str) (tE : Nat) (vs : List Value) (hf md i left : Int) (th tm : Nat) (A : List Value) (ep : Nat) (o : Option (Int × Nat)) (g : Array GenState) (d : Drawn) (os : OsState) (b1 b2 b3 : Bool) : List Nat := orcG w (DZ (cuC w 1000002 1000003 1000004 1000005 1000006 1000007)) encI rnextEHook (lgT w sc Z 1000002 1000008 1000009 1000003 1000004 1000005 1000006 1000007 k0 k1 k2 k3 k4 X tX E tE vs hf md i left th tm A ep o) 440 4400 560 5600 g d os b1 b2 b3
section
variable {w : World} {sc Z L C K ci cm ch cc I : Addr} {k0 k1 k2 k3 k4 : Nat} {X : Str} {tX : Nat} {E : Str} {tE : Nat} {vs : List Value} {hf md : Int} {th tm : Nat} {xs : List Addr} {h₀ : Heap} {g : Array GenState} {d : Drawn} {os : OsState} {R : Result → Shared → Prop}
theorem ct_end {i left : Int} {A : List Value} {ep : Nat} {x : Int} {tx : Nat} {h : Heap} {t : Nat} {M : List (Addr × Obj)} (hl : left ≤ 0)
    (D : Lg xs h₀ h (lgT w sc Z L C K ci cm ch cc I k0 k1 k2 k3 k4 X tX E tE vs hf md i left th tm A ep (some (x, tx)) ++ M)) (hT : TopOf (ktA w) h) (hn : 111 ≤ h₀.objs.size) (hx : ∀ a ∈ xs, (ktA w).get a = none) (ht : 1 ≤ t)
    (hq : ∀ h' t', Lg xs h₀ h' (lgT w sc Z L C K ci cm ch cc I k0 k1 k2 k3 k4 X tX E tE vs hf md i left th tm A ep (some (x, tx)) ++ M) → 1 ≤ t' → R (.ok .next) ⟨h', g, d, t', os⟩) :
    codeAny (model pr w) (An 440 4400) (cuC w L ci cm ch cc I) R ⟨h, g, d, t, os⟩ := by
  refine loop_turn rfl ?_
  have B := D.base
  refine led_goG encI 20000 (orcTE w sc Z k0 k1 k2 k3 k4 X tX E tE vs hf md i left th tm A ep (some (x, tx)) g d os) [0, 1, 2, 3, 4, 5, 6, 7] (fun _ _ => [left ≤ 0]) (fun _ _ => allC hl allN) (fun _ _ => .again (.block [] (lwE w L ci cm ch cc))) (fun ad tk => [riO i left, liS A ep, celI x tx, lwF3 w sc Z K k0 k1 k2 k3 k4 X tX E tE, celR C, liS vs 0, celI hf th, celI md tm])
    B hT (Nat.le_trans hn D.size) (ktA_bound w) (D.outs hn hx) ht encI_inj (HookS.le (dm := 800) (um := 8000) (rnextE_hook w) (by decide : 560 ≤ 800) (by decide : 5600 ≤ 8000)) (by kernel_rfl) (by decide) (orc13 (by kernel_rfl)) fun h' t' ad tk had htk D' hT' ht' => ?_
  exact ⟨rfl, codeAny_block (wpAny_execs_nil (hq h' t' (D.frame D') ht'))⟩
end
end Mine
end
section
open PySem PySem.W PyProof.Rows PySem.W.X Mine
set_option Elab.async false
set_option maxRecDepth 100000
set_option maxHeartbeats 4000000
set_option linter.unusedVariables false
namespace Mine
noncomputable def cutI (vs : List Value) (hf md : Int) (N : Nat) (i : Nat) : Bool := (cutF vs hf md i N).isSome
section
variable {w : World} {sc Z L C K ci cm ch cc I : Addr} {k0 k1 k2 k3 k4 : Nat} {X : Str} {tX : Nat} {E : Str} {tE : Nat} {vs : List Value} {hf md : Int} {th tm : Nat} {xs : List Addr} {h₀ : Heap} {g : Array GenState} {d : Drawn} {os : OsState} {R : Result → Shared → Prop}
theorem ct_rest (hT0 : TopOf (ktA w) h₀) (hn : 111 ≤ h₀.objs.size) (hx : ∀ a ∈ xs, (ktA w).get a = none) (hm : 0 ≤ md) (hm2 : md ≤ 29) (hC : ∀ i : Nat, i < (md + 1).toNat → CutOk vs md i (md + 1).toNat) :
    ∀ (r j : Nat) (A : List Value) (ep : Nat) (tx : Nat) (M : List (Addr × Obj)) (h : Heap) (t : Nat), j + r = (md + 1).toNat → A.length ≤ 31 * j → 1 ≤ t → Lg xs h₀ h (lgT w sc Z L C K ci cm ch cc I k0 k1 k2 k3 k4 X tX E tE vs hf md j r th tm A ep (some ((j : Int) - 1, tx)) ++ M) →
      (∀ h' t' (l : List Addr) ep' tx', (A ++ l.map Value.ref).length ≤ 31 * (md + 1).toNat → Lg xs h₀ h' (lgT w sc Z L C K ci cm ch cc I k0 k1 k2 k3 k4 X tX E tE vs hf md ((md + 1).toNat : Nat) (0 : Nat) th tm (A ++ l.map Value.ref) ep' (some ((((md + 1).toNat : Nat) : Int) - 1, tx')) ++ M) → 1 ≤ t' → R (.ok .next) ⟨h', g, d, t', os⟩) →
      codeAny (model pr w) (An 440 4400) (cuC w L ci cm ch cc I) R ⟨h, g, d, t, os⟩ := by
  intro r
  induction r with
  | zero =>
    intro j A ep tx M h t hj hA ht D hq
    have e : j = (md + 1).toNat := hj
    subst e
    refine ct_end (Int.le_refl _) D (hT0.keeps D.keep hx) hn hx ht fun h' t' D' ht' => ?_
    exact hq h' t' [] ep tx (by rw [List.map_nil, List.append_nil]; exact hA) (by rw [List.map_nil, List.append_nil]; exact D') ht'
  | succ r ih =>
    intro j A ep tx M h t hj hA ht D hq
    have hjN : j < (md + 1).toNat := by omega
    refine ct_turn (κ := .a) (o := some ((j : Int) - 1, tx)) (fun _ => rfl) (by omega) trivial (hC j hjN) hm (by omega) (by omega) D (hT0.keeps D.keep hx) hn hx ht fun h' t' a ws ep' ti td hw0 hw D' hT' ht' => ?_
    obtain ⟨l1, rfl⟩ := hw0
    have e1 : ((j : Int) + 1) = ((j + 1 : Nat) : Int) := rfl
    have e2 : (((r + 1 : Nat) : Int) - 1) = (r : Int) := Int.add_sub_cancel (r : Int) 1
    have e3 : (j : Int) = ((j + 1 : Nat) : Int) - 1 := (Int.add_sub_cancel (j : Int) 1).symm
    rw [e1, e2] at D'
    rw [show (some ((j : Int), ti)) = some (((j + 1 : Nat) : Int) - 1, ti) from by rw [← e3]] at D'
    refine ih (j + 1) (A ++ l1.map Value.ref) ep' ti M h' t' (by omega) (by rw [List.length_append]; omega) ht' D' fun h2 t2 l2 ep2 tx2 a1 a2 a3 => ?_
    rw [List.append_assoc, ← List.map_append] at a1 a2
    exact hq h2 t2 (l1 ++ l2) ep2 tx2 a1 a2 a3
theorem ct_loop (hT0 : TopOf (ktA w) h₀) (hn : 111 ≤ h₀.objs.size) (hx : ∀ a ∈ xs, (ktA w).get a = none) (hm : 0 ≤ md) (hm2 : md ≤ 29) (hC : ∀ i : Nat, i < (md + 1).toNat → CutOk vs md i (md + 1).toNat) :
    ∀ (r j : Nat) (ep : Nat) (o : Option (Int × Nat)) (M : List (Addr × Obj)) (h : Heap) (t : Nat) (i0 : Nat), j + r = (md + 1).toNat → firstM (cutI vs hf md (md + 1).toNat) j r = some i0 → 1 ≤ t → Lg xs h₀ h (lgT w sc Z L C K ci cm ch cc I k0 k1 k2 k3 k4 X tX E tE vs hf md j r th tm [] ep o ++ M) →
      (∀ h' t' a0 (l : List Addr) ep' tx' ti td, ((.ref a0 : Value) :: l.map Value.ref).length ≤ 31 * (md + 1).toNat → Lg xs h₀ h' (lgT w sc Z L C K ci cm ch cc I k0 k1 k2 k3 k4 X tX E tE vs hf md ((md + 1).toNat : Nat) (0 : Nat) th tm (.ref a0 :: l.map Value.ref) ep' (some ((((md + 1).toNat : Nat) : Int) - 1, tx')) ++ ((a0, tup2 i0 (cutD vs hf md i0 (md + 1).toNat) ti td) :: M)) → 1 ≤ t' → R (.ok .next) ⟨h', g, d, t', os⟩) →
      codeAny (model pr w) (An 440 4400) (cuC w L ci cm ch cc I) R ⟨h, g, d, t, os⟩ := by
  intro r
  induction r with
  | zero => intro j ep o M h t i0 hj hfm; exact nomatch hfm
  | succ r ih =>
    intro j ep o M h t i0 hj hfm ht D hq
    have hjN : j < (md + 1).toNat := by omega
    have e1 : ((j : Int) + 1) = ((j + 1 : Nat) : Int) := rfl
    have e2 : (((r + 1 : Nat) : Int) - 1) = (r : Int) := Int.add_sub_cancel (r : Int) 1
    have hf2 : (if cutI vs hf md (md + 1).toNat j = true then some j else firstM (cutI vs hf md (md + 1).toNat) (j + 1) r) = some i0 := hfm
    cases hc : cutF vs hf md j (md + 1).toNat with
    | none =>
      rw [if_neg (by unfold cutI; rw [hc]; exact Bool.false_ne_true)] at hf2
      refine ct_turn (κ := .f) (fun q => nomatch q) (Nat.zero_le _) hc (hC j hjN) hm (by omega) (by omega) D (hT0.keeps D.keep hx) hn hx ht fun h' t' a ws ep' ti td hw _ D' hT' ht' => ?_
      have hw' : ws = [] := hw
      subst hw'
      rw [e1, e2] at D'
      exact ih (j + 1) ep' (some (j, ti)) M h' t' i0 (by omega) hf2 ht' D' hq
    | some d0 =>
      have hs : (cutF vs hf md j (md + 1).toNat).isSome = true := by rw [hc]; rfl
      rw [if_pos (show cutI vs hf md (md + 1).toNat j = true from hs)] at hf2
      have ej : j = i0 := Option.some.inj hf2
      subst ej
      refine ct_turn (κ := .t) (fun q => nomatch q) (Nat.zero_le _) hs (hC j hjN) hm (by omega) (by omega) D (hT0.keeps D.keep hx) hn hx ht fun h' t' a ws ep' ti td hw hw2 D' hT' ht' => ?_
      obtain ⟨l1, rfl⟩ := hw
      have e3 : (j : Int) = ((j + 1 : Nat) : Int) - 1 := (Int.add_sub_cancel (j : Int) 1).symm
      rw [e1, e2] at D'
      rw [show (some ((j : Int), ti)) = some (((j + 1 : Nat) : Int) - 1, ti) from by rw [← e3]] at D'
      refine ct_rest hT0 hn hx hm hm2 hC r (j + 1) (.ref a :: l1.map Value.ref) ep' ti ((a, tup2 j (cutD vs hf md j (md + 1).toNat) ti td) :: M) h' t' (by omega) (by omega) ht' D' fun h2 t2 l2 ep2 tx2 a1 a2 a3 => ?_
      rw [List.cons_append, ← List.map_append] at a1 a2
      exact hq h2 t2 a (l1 ++ l2) ep2 tx2 ti td a1 a2 a3
end
end Mine
end
section
open PySem PySem.W PyProof.Rows PySem.W.X Mine
set_option Elab.async false
set_option maxRecDepth 100000
set_option maxHeartbeats 4000000
set_option linter.unusedVariables false
namespace Mine
theorem perm_fl {α : Type} (a b c d e f g h : α) : [a, b, c, d, e, f, g, h].Perm [a, c, d, e, g, h, b, f] := by
  refine List.Perm.cons _ ?_
  refine List.Perm.trans ?_ (List.perm_middle (l₁ := [c, d, e, g, h]) (a := b) (l₂ := [f])).symm
  refine List.Perm.cons _ (List.Perm.cons _ (List.Perm.cons _ (List.Perm.cons _ ?_)))
  exact (List.perm_middle (l₁ := [g, h]) (a := f) (l₂ := [])).symm
noncomputable def fstI (vs : List Value) (hf md : Int) (N : Nat) : Nat := (firstM (cutI vs hf md N) 0 N).getD 0
theorem refs_codeK (l : List Addr) (h : l.length ≤ 1000) : ∃ B n, 1 ≤ B ∧ 1 ≤ n ∧ refsV (decT B n (min l.length 1000)) = l.map .ref := by
  rw [Nat.min_eq_left h]
  obtain ⟨B, n, hB, hn, e⟩ := enc_toks (l.map (· + 1)) (fun a ha => by
    obtain ⟨b, _, rfl⟩ := List.mem_map.mp ha
    exact Nat.le_add_left ..)
  rw [List.length_map] at e
  exact ⟨B, n, hB, hn, by rw [e, refsV_succ]⟩
noncomputable def hkFl (w : World) (sc Z K C : Addr) (k0 k1 k2 k3 k4 : Nat) (X : Str) (tX : Nat) (E : Str) (tE : Nat) (vs : List Value) (hf md : Int) (th tm : Nat) (N : Nat) : Hk :=
  { nt := 7, nn := 1, res := fun _ _ => .ok .next, news := fun tv _ => [tup2 (fstI vs hf md N : Nat) (cutD vs hf md (fstI vs hf md N : Nat) N) (tv.getD 5 0 - 1) (tv.getD 6 0 - 1)],
    upd := fun tv av => [riO (N : Nat) (0 : Nat), celI ((N : Nat) - 1 : Int) (tv.getD 0 0 - 1), lwF3 w sc Z K k0 k1 k2 k3 k4 X tX E tE, celR C, celI hf th, celI md tm, liS (.ref (av.getD 0 0) :: refsV (decT (tv.getD 1 0) (tv.getD 2 0) (min (tv.getD 3 0 - 1) 1000))) (tv.getD 4 0 - 1), liS vs 0] }
section
variable {w : World} {sc Z L C K ci cm ch cc I : Addr} {k0 k1 k2 k3 k4 : Nat} {X : Str} {tX : Nat} {E : Str} {tE : Nat} {vs : List Value} {hf md : Int} {th tm : Nat}
noncomputable def FlOk (vs : List Value) (hf md left : Int) : Prop := left = md + 1 ∧ 0 ≤ md ∧ md ≤ 29 ∧ (∀ i : Nat, i < left.toNat → CutOk vs md i left.toNat) ∧ (firstM (cutI vs hf md left.toNat) 0 left.toNat).isSome = true
theorem fl_spec (left : Int) (hO : FlOk vs hf md left) : SpecC pr w (ktA w) 111 1 440 4400 (cuC w L ci cm ch cc I) [I, ci, L, cc, ch, cm, K, C] [riO 0 left, celN, lwF3 w sc Z K k0 k1 k2 k3 k4 X tX E tE, celR C, celI hf th, celI md tm, liS [] 0, liS vs 0] (hkFl w sc Z K C k0 k1 k2 k3 k4 X tX E tE vs hf md th tm left.toNat) := by
  intro A h g d t os a1 a2 a3 hT hn ht hg hlo _ hnd hf'
  obtain ⟨hleft, hm, hm2, hC, hs⟩ := hO
  obtain ⟨i0, hi0⟩ := Option.isSome_iff_exists.mp hs
  have hN : left.toNat = (md + 1).toNat := by rw [hleft]
  have hl2 : left = (((md + 1).toNat : Nat) : Int) := by omega
  show codeAny (model pr w) A _ (PostC (hkFl w sc Z K C k0 k1 k2 k3 k4 X tX E tE vs hf md th tm left.toNat) [I, ci, L, cc, ch, cm, K, C] h g d os) _
  refine code_An (d := 440) (u := 4400) a1 a2 a3 ?_
  have L0 := Lg.ofSpec (needs := [I, ci, L, cc, ch, cm, K, C]) (objs := [riO 0 left, celN, lwF3 w sc Z K k0 k1 k2 k3 k4 X tX E tE, celR C, celI hf th, celI md tm, liS [] 0, liS vs 0]) hg hlo hnd
  have L1 : Lg [I, ci, L, cc, ch, cm, K, C] h h (lgT w sc Z L C K ci cm ch cc I k0 k1 k2 k3 k4 X tX E tE vs hf md ((0 : Nat) : Int) (((md + 1).toNat : Nat) : Int) th tm [] 0 none ++ []) := by
    rw [List.append_nil, ← hl2]
    exact L0.perm (perm_fl _ _ _ _ _ _ _ _)
  rw [hN] at hC hs hi0 ⊢
  have ei : fstI vs hf md (md + 1).toNat = i0 := by unfold fstI; rw [hi0]; rfl
  refine ct_loop (xs := [I, ci, L, cc, ch, cm, K, C]) (h₀ := h) hT hn hf' hm hm2 hC (md + 1).toNat 0 0 none [] h t i0 (Nat.zero_add _) hi0 ht L1 fun h' t' a0 l ep' tx' ti td b1 D ht' => ?_
  have hl1 : l.length ≤ 1000 := by
    rw [List.length_cons, List.length_map] at b1
    omega
  obtain ⟨B, n, hB, hn1, e⟩ := refs_codeK l hl1
  refine ⟨h', t', [tx' + 1, B, n, l.length + 1, ep' + 1, ti + 1, td + 1], [a0], rfl, ht', rfl, rfl, geC (geS _) (geC hB (geC hn1 (geC (geS _) (geC (geS _) (geC (geS _) (geC (geS _) geN)))))), rfl, ?_⟩
  · rw [← e] at D
    have D2 := D.perm (List.Perm.append_right _ (perm_fl _ _ _ _ _ _ _ _).symm)
    rw [← ei] at D2
    exact Lg.after (upd := (hkFl w sc Z K C k0 k1 k2 k3 k4 X tX E tE vs hf md th tm (md + 1).toNat).upd [tx' + 1, B, n, l.length + 1, ep' + 1, ti + 1, td + 1] [a0]) (av := [a0]) (news := [tup2 (fstI vs hf md (md + 1).toNat : Nat) (cutD vs hf md (fstI vs hf md (md + 1).toNat : Nat) (md + 1).toNat) ti td]) D2 rfl rfl
end
noncomputable def flC (c : Code) (i : Nat) : Addr := ((flE c).cells.getD i (default, 0)).2
noncomputable def flG (w : World) (c : Code) : GH :=
  { needs := [flI c, flC c 0, (flE c).locals, flC c 3, flC c 2, flC c 1], more := [fun l => [refA (enAt (oAt l 2) 4).val, refA (celV (oAt l 3))]], code := fun _ => cuC w (flE c).locals (flC c 0) (flC c 1) (flC c 2) (flC c 3) (flI c),
    props := fun l => [FlOk (sqAt (oAt l 7)) (intOf (celV (oAt l 4))) (intOf (celV (oAt l 5))) (intOf (fiAt (oAt l 0) 1))],
    objs := fun l => [riO 0 (intOf (fiAt (oAt l 0) 1)), celN, lwF3 w (refA (enAt (oAt l 2) 0).val) (refA (enAt (oAt l 2) 1).val) (refA (enAt (oAt l 2) 4).val) (keyTok (enAt (oAt l 2) 0)) (keyTok (enAt (oAt l 2) 1)) (keyTok (enAt (oAt l 2) 2)) (keyTok (enAt (oAt l 2) 3)) (keyTok (enAt (oAt l 2) 4)) (strOf (enAt (oAt l 2) 2).val) (tokOf (enAt (oAt l 2) 2).val) (strOf (enAt (oAt l 2) 3).val) (tokOf (enAt (oAt l 2) 3).val), celR (refA (celV (oAt l 3))), celI (intOf (celV (oAt l 4))) (tokOf (celV (oAt l 4))), celI (intOf (celV (oAt l 5))) (tokOf (celV (oAt l 5))), liS [] 0, liS (sqAt (oAt l 7)) 0],
    hk := fun l => strictI (fiAt (oAt l 0) 1) fun n _ => strictR (celV (oAt l 3)) fun C => strictL (oAt l 7) fun vs _ => strictI (celV (oAt l 4)) fun hf th => strictI (celV (oAt l 5)) fun md tm =>
      strictS (enAt (oAt l 2) 0).key fun _ k0 => strictS (enAt (oAt l 2) 1).key fun _ k1 => strictS (enAt (oAt l 2) 2).key fun _ k2 => strictS (enAt (oAt l 2) 3).key fun _ k3 => strictS (enAt (oAt l 2) 4).key fun _ k4 =>
      strictR (enAt (oAt l 2) 0).val fun sc => strictR (enAt (oAt l 2) 1).val fun Z => strictR (enAt (oAt l 2) 4).val fun K => strictS (enAt (oAt l 2) 2).val fun X tX => strictS (enAt (oAt l 2) 3).val fun E tE =>
      hkFl w sc Z K C k0 k1 k2 k3 k4 X tX E tE vs hf md th tm n.toNat }
noncomputable def flHook (w : World) : Code → Option Hr := cHook (isFl 110) (flG w)
theorem fl_hook (w : World) : HookS pr w (ktA w) 111 1 440 4400 (flHook w) := cHook_n 8 (fun _ _ => rfl) fun c f hp => by
  have eh : (flG w c).hk ((List.range 8).map f) = hkFl w (refA (enAt (f 2) 0).val) (refA (enAt (f 2) 1).val) (refA (enAt (f 2) 4).val) (refA (celV (f 3))) (keyTok (enAt (f 2) 0)) (keyTok (enAt (f 2) 1)) (keyTok (enAt (f 2) 2)) (keyTok (enAt (f 2) 3)) (keyTok (enAt (f 2) 4)) (strOf (enAt (f 2) 2).val) (tokOf (enAt (f 2) 2).val) (strOf (enAt (f 2) 3).val) (tokOf (enAt (f 2) 3).val) (sqAt (f 7)) (intOf (celV (f 4))) (intOf (celV (f 5))) (tokOf (celV (f 4))) (tokOf (celV (f 5))) (intOf (fiAt (f 0) 1)).toNat := by
    show (strictI (fiAt (f 0) 1) fun n _ => strictR (celV (f 3)) fun C => strictL (f 7) fun vs _ => strictI (celV (f 4)) fun hf th => strictI (celV (f 5)) fun md tm =>
      strictS (enAt (f 2) 0).key fun _ k0 => strictS (enAt (f 2) 1).key fun _ k1 => strictS (enAt (f 2) 2).key fun _ k2 => strictS (enAt (f 2) 3).key fun _ k3 => strictS (enAt (f 2) 4).key fun _ k4 =>
      strictR (enAt (f 2) 0).val fun sc => strictR (enAt (f 2) 1).val fun Z => strictR (enAt (f 2) 4).val fun K => strictS (enAt (f 2) 2).val fun X tX => strictS (enAt (f 2) 3).val fun E tE =>
      hkFl w sc Z K C k0 k1 k2 k3 k4 X tX E tE vs hf md th tm n.toNat) = _
    rw [strictI_eq, strictR_eq, strictL_eq, strictI_eq, strictI_eq, strictS_eq, strictS_eq, strictS_eq, strictS_eq, strictS_eq, strictR_eq, strictR_eq, strictR_eq, strictS_eq, strictS_eq]
    rfl
  show SpecC _ _ _ _ _ _ _ _ _ _ { (flG w c).hk ((List.range 8).map f) with eqs := [] }
  rw [eh]
  exact fl_spec _ (hp _ (.head _))
end Mine
end
section
open PySem PySem.W PyProof.Rows PySem.W.X Mine
set_option Elab.async false
set_option maxRecDepth 100000
set_option maxHeartbeats 4000000
set_option linter.unusedVariables false
namespace Mine
noncomputable def v7Hook (w : World) : Code → Option Hr := orHook ritHook (flHook w)
theorem v7_hook (w : World) : HookS pr w (ktA w) 111 1 430 4300 (v7Hook w) := ((rit_hook w).le (by decide) (by decide)).or ((fl_hook w).le (by decide) (by decide))
noncomputable def lgV7 (w : World) (sc Z L C K ci cm ch cc : Addr) (k0 k1 k2 k3 k4 : Nat) (X : Str) (tX : Nat) (E : Str) (tE : Nat) (vs : List Value) (hf md : Int) (th tm : Nat) : List (Addr × Obj) := [(L, lwF3 w sc Z K k0 k1 k2 k3 k4 X tX E tE), (cc, celR C), (C, liS vs 0), (ch, celI hf th), (cm, celI md tm), (K, liS [] 0), (ci, celN)]
section
variable (w : World) (sc Z L C K ci cm ch cc : Addr) (k0 k1 k2 k3 k4 : Nat) (X : Str) (tX : Nat) (E : Str) (tE : Nat) (vs : List Value) (hf md : Int) (th tm : Nat) (h : Heap) (g : Array GenState) (d : Drawn) (os : OsState)
noncomputable def orcV7 (b1 b2 b3 : Bool) : List Nat := orcG w (trA w 7 1 1000002 1000003 1000004 1000005 1000006) encF (v7Hook w) (lgV7 w sc Z 1000002 1000007 1000008 1000003 1000004 1000005 1000006 k0 k1 k2 k3 k4 X tX E tE vs hf md th tm) 410 4100 430 4300 g d os b1 b2 b3
end
noncomputable def factsV7 (vs : List Value) (hf md : Int) : List Prop := [FlOk vs hf md (md + 1), md + 1 ≤ 1000, 0 ≤ md + 1]
noncomputable def obV7 (w : World) (sc Z C K : Addr) (k0 k1 k2 k3 k4 : Nat) (X : Str) (tX : Nat) (E : Str) (tE : Nat) (vs : List Value) (hf md : Int) (th tm : Nat) (ad tk : Nat → Nat) : List Obj :=
  [lwF3 w sc Z K k0 k1 k2 k3 k4 X tX E tE, celR C, liS vs 0, celI hf th, celI md tm, liS (.ref (ad 9) :: refsV (decT (tk 5) (tk 6) (min (tk 7 - 1) 1000))) (tk 8 - 1), celI (((md + 1).toNat : Nat) - 1 : Int) (tk 4 - 1), tup2 (fstI vs hf md (md + 1).toNat : Nat) (cutD vs hf md (fstI vs hf md (md + 1).toNat : Nat) (md + 1).toNat) (tk 9 - 1) (tk 10 - 1)]
section
variable {w : World} {sc Z L C K ci cm ch cc : Addr} {k0 k1 k2 k3 k4 : Nat} {X : Str} {tX : Nat} {E : Str} {tE : Nat} {vs : List Value} {hf md : Int} {th tm : Nat} {h : Heap} {g : Array GenState} {d : Drawn} {os : OsState}
noncomputable def lgV7' (w : World) (sc Z L C K cm ch cc : Addr) (k0 k1 k2 k3 k4 : Nat) (X : Str) (tX : Nat) (E : Str) (tE : Nat) (vs : List Value) (hf md : Int) (th tm : Nat) (a : Addr) (rs : List Value) (e : Nat) (i dd : Int) (ti td : Nat) : List (Addr × Obj) := [(L, lwF3 w sc Z K k0 k1 k2 k3 k4 X tX E tE), (cm, celI md tm), (K, liS (.ref a :: rs) e), (a, tup2 i dd ti td)]
theorem s7_all {xs : List Addr} {h₀ : Heap} {t : Nat} {Q : Flow → Shared → Prop} (hF : FlOk vs hf md (md + 1))
    (D : Lg xs h₀ h (lgV7 w sc Z L C K ci cm ch cc k0 k1 k2 k3 k4 X tX E tE vs hf md th tm)) (hT : TopOf (ktA w) h) (hn : 111 ≤ h₀.objs.size) (hx : ∀ a ∈ xs, (ktA w).get a = none) (ht : 1 ≤ t)
    (hq : ∀ h' t' a rs e ti td, Lg xs h₀ h' (lgV7' w sc Z L C K cm ch cc k0 k1 k2 k3 k4 X tX E tE vs hf md th tm a rs e (fstI vs hf md (md + 1).toNat : Nat) (cutD vs hf md (fstI vs hf md (md + 1).toNat : Nat) (md + 1).toNat) ti td) → TopOf (ktA w) h' → 1 ≤ t' → Q .next ⟨h', g, d, t', os⟩) :
    wpAny (model pr w) (An 410 4100) (execs (((lwBody w).drop 7).take 1) (lwE w L ci cm ch cc)) Q NoE ⟨h, g, d, t, os⟩ := by
  refine tw_execs ?_
  have F := hF
  obtain ⟨_, hm, hm2, _, _⟩ := F
  refine led_goH encF 20000 (orcV7 w sc Z k0 k1 k2 k3 k4 X tX E tE vs hf md th tm g d os) [0, 1, 2, 3, 4, 5, 6, 9] (fun _ tk => factsV7 vs hf md) (fun _ tk hk => allC hF (allC (by omega) (allC (by omega) allN))) (fun _ _ => .next) (obV7 w sc Z C K k0 k1 k2 k3 k4 X tX E tE vs hf md th tm) D hT hn (ktA_bound w) hx ht encF_inj (v7_hook w) (by kernel_rfl) (by decide) (orc13 (by kernel_rfl)) fun h' t' ad tk had htk D' hT' ht' => ?_
  have D2 : Lg xs h₀ h' [(L, lwF3 w sc Z K k0 k1 k2 k3 k4 X tX E tE), (cc, celR C), (C, liS vs 0), (ch, celI hf th), (cm, celI md tm), (K, liS (.ref (ad 9) :: refsV (decT (tk 5) (tk 6) (min (tk 7 - 1) 1000))) (tk 8 - 1)), (ci, celI (((md + 1).toNat : Nat) - 1 : Int) (tk 4 - 1)), (ad 9, tup2 (fstI vs hf md (md + 1).toNat : Nat) (cutD vs hf md (fstI vs hf md (md + 1).toNat : Nat) (md + 1).toNat) (tk 9 - 1) (tk 10 - 1))] := D'
  refine hq h' t' (ad 9) (refsV (decT (tk 5) (tk 6) (min (tk 7 - 1) 1000))) (tk 8 - 1) (tk 9 - 1) (tk 10 - 1) (Lg.less2 D2 ?_) hT' ht'
  refine List.Sublist.cons_cons _ (List.Sublist.cons _ (List.Sublist.cons _ (List.Sublist.cons _ (List.Sublist.cons_cons _ (List.Sublist.cons_cons _ (List.Sublist.cons _ (List.Sublist.refl _)))))))
end
end Mine
end
section
open PySem PySem.W PyProof.Rows PySem.W.X Mine
set_option Elab.async false
set_option maxRecDepth 100000
set_option maxHeartbeats 4000000
set_option linter.unusedVariables false
namespace Mine
noncomputable def cmL (e : PySem.Expr) : PySem.Expr := match e with
  | .Compare l _ _ _ => l
  | _ => default
noncomputable def cmR (e : PySem.Expr) : PySem.Expr := match e with
  | .Compare _ _ r _ => r.getD 0 default
  | _ => default
noncomputable def cP (e : PySem.Expr) : Pos := match e with
  | .Compare _ _ _ p => p
  | _ => default
noncomputable def rEx (s : Stmt) : PySem.Expr := match s with
  | .Return (some e) _ => e
  | _ => default
noncomputable def rPs (s : Stmt) : Pos := match s with
  | .Return _ p => p
  | _ => default
noncomputable def ifT (s : Stmt) : PySem.Expr := match s with
  | .If t _ _ _ => t
  | _ => default
noncomputable def ifB (s : Stmt) : List Stmt := match s with
  | .If _ b _ _ => b
  | _ => []
noncomputable def ifP (s : Stmt) : Pos := match s with
  | .If _ _ _ p => p
  | _ => default
noncomputable def s8 (w : World) : Stmt := (lwBody w).getD 8 default
noncomputable def tL (w : World) : PySem.Expr := cmL (ifT (s8 w))
noncomputable def tR (w : World) : PySem.Expr := cmR (ifT (s8 w))
theorem s8_eq (w : World) : s8 w = .If (.Compare (tL w) [.Eq] [tR w] (cP (ifT (s8 w)))) (ifB (s8 w)) [] (ifP (s8 w)) := by kernel_rfl
noncomputable def lg8 (w : World) (sc Z L K : Addr) (k0 k1 k2 k3 k4 : Nat) (X : Str) (tX : Nat) (E : Str) (tE : Nat) : List (Addr × Obj) := [(L, lwF3 w sc Z K k0 k1 k2 k3 k4 X tX E tE)]
section
variable {w : World} {sc Z L K ci cm ch cc : Addr} {k0 k1 k2 k3 k4 : Nat} {X : Str} {tX : Nat} {E : Str} {tE : Nat} {h : Heap} {g : Array GenState} {d : Drawn} {os : OsState} {xs : List Addr} {h₀ : Heap} {t : Nat}
theorem ev8L {Q : Value → Shared → Prop} {M : List (Addr × Obj)} (D : Lg xs h₀ h (lg8 w sc Z L K k0 k1 k2 k3 k4 X tX E tE ++ M)) (hT : TopOf (ktA w) h) (hn : 111 ≤ h₀.objs.size) (hx : ∀ a ∈ xs, (ktA w).get a = none) (ht : 1 ≤ t)
    (hq : ∀ h' t', Lg xs h₀ h' (lg8 w sc Z L K k0 k1 k2 k3 k4 X tX E tE ++ M) → TopOf (ktA w) h' → 1 ≤ t' → Q (.ref K) ⟨h', g, d, t', os⟩) :
    wpAny (model pr w) (An 410 4100) (eval (tL w) (lwE w L ci cm ch cc)) Q NoE ⟨h, g, d, t, os⟩ := by
  refine tw_eval ?_
  refine led_goG encV 20000 (fun b1 b2 b3 => orcG w (PySem.W.ZFast.zw14044960220447912780 (tL w) (lwE w 1000002 1000003 1000004 1000005 1000006)) encV (fun _ => none) (lg8 w sc Z 1000002 K k0 k1 k2 k3 k4 X tX E tE) 410 4100 430 4300 g d os b1 b2 b3) [0] (fun _ _ => []) (fun _ _ _ h => nomatch h) (fun _ _ => .ref K)
    (fun _ _ => [lwF3 w sc Z K k0 k1 k2 k3 k4 X tX E tE]) D.base hT (Nat.le_trans hn D.size) (ktA_bound w) (D.outs hn hx) ht encV_inj (HookS.none (dm := 430) (um := 4300)) (by kernel_rfl) (by decide +kernel) (orc13 (by kernel_rfl)) fun h' t' ad tk had htk D' hT' ht' => ?_
  exact hq h' t' (D.frame D') hT' ht'
theorem ev8R {Q : Value → Shared → Prop} {M : List (Addr × Obj)} (D : Lg xs h₀ h (lg8 w sc Z L K k0 k1 k2 k3 k4 X tX E tE ++ M)) (hT : TopOf (ktA w) h) (hn : 111 ≤ h₀.objs.size) (hx : ∀ a ∈ xs, (ktA w).get a = none) (ht : 1 ≤ t)
    (hq : ∀ h' t' a, Lg xs h₀ h' (lg8 w sc Z L K k0 k1 k2 k3 k4 X tX E tE ++ ((a, liS [] 0) :: M)) → TopOf (ktA w) h' → 1 ≤ t' → Q (.ref a) ⟨h', g, d, t', os⟩) :
    wpAny (model pr w) (An 410 4100) (eval (tR w) (lwE w L ci cm ch cc)) Q NoE ⟨h, g, d, t, os⟩ := by
  refine tw_eval ?_
  refine led_goG encV 20000 (fun b1 b2 b3 => orcG w (PySem.W.ZFast.zw14044960220447912780 (tR w) (lwE w 1000002 1000003 1000004 1000005 1000006)) encV (fun _ => none) (lg8 w sc Z 1000002 K k0 k1 k2 k3 k4 X tX E tE) 410 4100 430 4300 g d os b1 b2 b3) [0, 1] (fun _ _ => []) (fun _ _ _ h => nomatch h) (fun ad _ => .ref (ad 1))
    (fun _ _ => [lwF3 w sc Z K k0 k1 k2 k3 k4 X tX E tE, liS [] 0]) D.base hT (Nat.le_trans hn D.size) (ktA_bound w) (D.outs hn hx) ht encV_inj (HookS.none (dm := 430) (um := 4300)) (by kernel_rfl) (by decide +kernel) (orc13 (by kernel_rfl)) fun h' t' ad tk had htk D' hT' ht' => ?_
  exact hq h' t' (ad 1) (D.frame D') hT' ht'
theorem st8 {Q : Flow → Shared → Prop} {M : List (Addr × Obj)} {rs : List Value} {a : Addr} {e : Nat} (D : Lg xs h₀ h (lg8 w sc Z L K k0 k1 k2 k3 k4 X tX E tE ++ ((K, liS (.ref a :: rs) e) :: M))) (hT : TopOf (ktA w) h) (hn : 111 ≤ h₀.objs.size) (hx : ∀ a ∈ xs, (ktA w).get a = none) (ht : 1 ≤ t)
    (hq : ∀ h' t', Lg xs h₀ h' (lg8 w sc Z L K k0 k1 k2 k3 k4 X tX E tE ++ ((K, liS (.ref a :: rs) e) :: M)) → TopOf (ktA w) h' → 1 ≤ t' → Q .next ⟨h', g, d, t', os⟩) :
    wpAny (model pr w) (An 410 4100) (execs (((lwBody w).drop 8).take 1) (lwE w L ci cm ch cc)) Q NoE ⟨h, g, d, t, os⟩ := by
  rw [show ((lwBody w).drop 8).take 1 = [s8 w] from by kernel_rfl]
  refine wpAny_execs_cons ?_
  rw [s8_eq]
  refine wpAny_If ?_
  refine wpAny_isTrue_Compare1 ?_ (by kernel_rfl)
  refine ev8L D hT hn hx ht fun h1 t1 D1 hT1 ht1 => ?_
  refine ev8R D1 hT1 hn hx ht1 fun h2 t2 b D2 hT2 ht2 => ?_
  have gK : h2.get? K = some (liS (.ref a :: rs) e) := D2.get (K, _) (.tail _ (.tail _ (.head _)))
  have gb : h2.get? b = some (liS [] 0) := D2.get (b, _) (.tail _ (.head _))
  refine P.eq_list_lengths (items := (Value.ref a :: rs).toArray) (items2 := #[]) (n := e) (n2 := 0) gK gb (by simp) (by decide +kernel) ?_
  refine wpAny_truthy_bool ?_
  simp only [Bool.false_eq_true, if_false]
  refine wpAny_execs_nil ?_
  refine wpAny_execs_nil ?_
  exact hq h2 t2 (D2.less2 (List.Sublist.cons_cons _ (List.Sublist.cons _ (List.Sublist.refl _)))) hT2 ht2
end
end Mine
end
section
open PySem PySem.W PyProof.Rows PySem.W.X Mine
set_option Elab.async false
set_option maxRecDepth 100000
set_option maxHeartbeats 0
set_option linter.unusedVariables false
namespace Mine
noncomputable def cmpS (a b : Str) : Int := (bif decide (b.cps.toList < a.cps.toList) then 1 else 0) - (bif decide (a.cps.toList < b.cps.toList) then 1 else 0)
noncomputable def ltC (a b : Str) : Bool := @decide (cmpS a b < 0) (Z.ltZ (cmpS a b) 0)
theorem lt_spec_s (w : World) (C N T md S f0 f1 f2 f3 f4 f5 st bi cell ca : Addr) (dx dy : Option Addr) (sl : Array (Option Value)) (t1 t3 tm : Nat) (hh : Str → Int) (tt : Str → Nat) (v0 : Value) (q : Str) (tq : Nat) (rest : List Value) (pm ct : Value) (a b : Str) (ta tb : Nat) (h1 h2 : Int) (k1 k2 : Nat) (x y : Addr) :
    SpecC pr w (ktA w) 111 1 570 5700 (.call (.ref f1) ⟨[.ref x, .ref y], []⟩) [f1, ca, cell, x, y, C, N, md]
      [fnO (fdK w 3 "cmp_to_key.<locals>.K.__lt__" ca bi [("mycmp", cell)] pm ct), coO v0 q tq rest, cellO 37, insO C dx #[some (.str a ta)], insO C dy #[some (.str b tb)], clsO N C sl, nsO hh tt t1 t3 S f0 f1 f2 f3 f4 f5 st md h1 h2 k1 k2, mdO C tm]
      (hkBool (ltC a b) [fnO (fdK w 3 "cmp_to_key.<locals>.K.__lt__" ca bi [("mycmp", cell)] pm ct), coO v0 q tq rest, cellO 37, insO C dx #[some (.str a ta)], insO C dy #[some (.str b tb)], clsO N C sl, nsO hh tt t1 t3 S f0 f1 f2 f3 f4 f5 st md h1 h2 k1 k2, mdO C tm]) := by
  exact spec_run (dmh := 750) (umh := 7500) (hook := mdHook) 1000 (dec9 56 0x984c26130004c2613098000000058241e0f0682c160f07834160b04834160b0484416070783c1a0b0583c1e0d0582c0e0d0582c0e11028002211088440601) [] [] (ktA_bound w) (md_hook w) rfl rfl (fun _ _ => rfl) rfl rfl List.nodup_nil (orc1 (by kernel_rfl))
theorem objnew_spec_s (w : World) (C N T S f0 f1 f2 f3 f4 f5 st md : Addr) (nm qn : Nat) (t1 t3 : Nat) (hh : Str → Int) (tt : Str → Nat) (a : Str) (ta : Nat) (h1 h2 : Int) (k1 k2 : Nat) :
    SpecC pr w (ktA w) 111 1 800 8000 (.call (.builtin "object.__new__") ⟨[.ref C, .str a ta], []⟩) [C, N]
      [clsO N C (slK T nm qn), nsO hh tt t1 t3 S f0 f1 f2 f3 f4 f5 st md h1 h2 k1 k2] (hkObj C [clsO N C (slK T nm qn), nsO hh tt t1 t3 S f0 f1 f2 f3 f4 f5 st md h1 h2 k1 k2]) := by
  exact spec_run (dmh := 0) (umh := 0) (hook := fun _ => none) 100000 (dec9 20 0x8040601008040201008040201008040201008040201) [2, 3] [] (ktA_bound w) HookS.none rfl rfl (fun _ _ => rfl) rfl rfl (by decide) (orc0 (by kernel_rfl))
noncomputable def hkIns_s (C : Addr) (a : Str) (ta : Nat) (objs : List Obj) : Hk := { nt := 0, nn := 2, res := fun _ av => .ok (.ret (.ref (av.getD 1 0))), news := fun _ av => [edO, insO C (some (av.getD 0 0)) #[some (.str a ta)]], upd := fun _ _ => objs }
theorem knew_spec_s (w : World) (C N T S f0 f1 f2 f3 f4 f5 st md bi ca : Addr) (nm qn tm : Nat) (t1 t3 : Nat) (hh : Str → Int) (tt : Str → Nat) (v0 : Value) (q : Str) (tq : Nat) (rest : List Value) (pm ct : Value) (a : Str) (ta : Nat) (h1 h2 : Int) (k1 k2 : Nat) :
    SpecC pr w (ktA w) 111 1 555 5550 (.builtin "type.__call__" ⟨[.ref C, .str a ta], []⟩) [C, N, f0, ca, md]
      [clsO N C (slK T nm qn), nsO hh tt t1 t3 S f0 f1 f2 f3 f4 f5 st md h1 h2 k1 k2, fnO (fdK w 2 "cmp_to_key.<locals>.K.__init__" ca bi [] pm ct), coO v0 q tq rest, mdO C tm]
      (hkIns_s C a ta [clsO N C (slK T nm qn), nsO hh tt t1 t3 S f0 f1 f2 f3 f4 f5 st md h1 h2 k1 k2, fnO (fdK w 2 "cmp_to_key.<locals>.K.__init__" ca bi [] pm ct), coO v0 q tq rest, mdO C tm]) := by
  intro A h g d t os h1' h2' h3' hT hn ht hg hl he hnd hf
  refine code_An (d := 555) (u := 5550) h1' h2' h3' ?_
  have L0 := Lg.init hg hl hnd
  have gC := hg 0 C _ rfl rfl
  refine codeAny_builtin (b := Builtin.«type.__call__») (entryFor_of_tree (by kernel_rfl)) ?_
  refine wp_An (d := 557) (u := 5557) rfl (Nat.le_of_ble_eq_true (by kernel_rfl)) (Nat.le_of_ble_eq_true (by kernel_rfl)) ?_
  unfold Builtin.«type.__call__»
  repeat (first
    | ((with_reducible show wpAny _ _ (mroOf _) _ _ _); refine k_mroC gC rfl ?_)
    | ((with_reducible show wpAny _ _ (Bind.madeBy _) _ _ _); refine k_madeBy gC ?_)
    | ((with_reducible show wpAny _ _ (call _ _ _) _ _ _); refine halt ?_)
    | wp_step
    | (with_reducible refine wpAny_ite_false (by kernel_rfl) ?_) | (with_reducible refine wpAny_ite_true (by kernel_rfl) ?_))
  refine ⟨?_⟩
  have hT2 : ∀ {h' : Heap} {l : List (Addr × Obj)}, Lg [C, N, f0, ca, md] h h' l → TopOf (ktA w) h' := fun D => hT.keeps D.keep hf
  refine wpAny_call ((objnew_spec_s w C N T S f0 f1 f2 f3 f4 f5 st md nm qn t1 t3 hh tt a ta h1 h2 k1 k2).go rfl (by show 557 ≤ 800; omega) (by show 5557 ≤ 8000; omega) hT hn ht
    (fun i a o e1 e2 => hg i a o (by revert e1; match i with | 0 => exact id | 1 => exact id | (i + 2) => exact fun e => by simp at e) (by revert e2; match i with | 0 => exact id | 1 => exact id | (i + 2) => exact fun e => by simp at e)) rfl (fun _ h => (nomatch h)) (hnd.sublist (by simp)) (fun b hb => hf b (by simp at hb ⊢; rcases hb with rfl | rfl <;> simp)) fun h' t' tv av ht' htv hav htk Af => ?_)
  obtain ⟨dc, i, rfl⟩ : ∃ dc i, av = [dc, i] := by
    match av, hav with
    | [a, b], _ => exact ⟨a, b, rfl⟩
  have D1 := Lg.hook (needs := [C, N]) (objs := [clsO N C (slK T nm qn), nsO hh tt t1 t3 S f0 f1 f2 f3 f4 f5 st md h1 h2 k1 k2]) (l := [(f0, fnO (fdK w 2 "cmp_to_key.<locals>.K.__init__" ca bi [] pm ct)), (ca, coO v0 q tq rest), (md, mdO C tm)]) L0 Af rfl rfl rfl
  have hT1 := hT2 D1
  have gi : h'.get? i = some (insO C (some dc) #[]) := D1.get (i, _) (by simp [hkObj])
  have gC1 : h'.get? C = some (clsO N C (slK T nm qn)) := D1.get (C, _) (.head _)
  refine wpAny_bind (k_isInstC gi rfl gC1 rfl rfl ?_)
  refine wpAny_ite_false (by kernel_rfl) ?_
  have D2 : Lg [C, N, f0, ca, md] h h' [(C, clsO N C (slK T nm qn)), (N, nsO hh tt t1 t3 S f0 f1 f2 f3 f4 f5 st md h1 h2 k1 k2), (f0, fnO (fdK w 2 "cmp_to_key.<locals>.K.__init__" ca bi [] pm ct)), (ca, coO v0 q tq rest), (md, mdO C tm), (dc, edO), (i, insO C (some dc) #[])] := D1
  refine led_go (dm := 750) (um := 7500) (hook := mdHook) encI 1000 (dec9 32 0x834120904824060100834020d008340601008341e0f0003c1e0f0781c0a0501804020d) [] [] (fun _ _ => .done (.ret (.ref i)))
    (fun _ _ => [clsO N C (slK T nm qn), nsO hh tt t1 t3 S f0 f1 f2 f3 f4 f5 st md h1 h2 k1 k2, fnO (fdK w 2 "cmp_to_key.<locals>.K.__init__" ca bi [] pm ct), coO v0 q tq rest, mdO C tm, edO, insO C (some dc) #[some (.str a ta)]]) (fun _ _ => [])
    D2 hT1 hn (ktA_bound w) hf ht' encI_inj (md_hook w) rfl (fun _ _ => rfl) (fun _ _ => rfl) List.nodup_nil rfl (orc1 (by kernel_rfl)) fun h2' t2' tv2 av2 _ hav2 D3 hT3 ht3 _ => ?_
  rw [List.length_eq_zero_iff.mp hav2] at D3
  refine ⟨h2', t2', [], [dc, i], rfl, ht3, rfl, rfl, fun _ hx => (nomatch hx), rfl, ?_⟩
  refine Lg.after (D3.perm (l' := _) (List.Perm.refl _)) rfl rfl
noncomputable def refStr (a : Args) : Bool := match Nat.beq a.pos.length 2 with
  | true => match isRef (pA a 0) with
    | true => isStr (pA a 1)
    | false => false
  | false => false
noncomputable def knG_s (w : World) (a : Args) : GH :=
  { needs := [refA (pA a 0)], more := kSt, code := fun _ => .builtin "" ⟨[.ref (refA (pA a 0)), .str (strOf (pA a 1)) (tokOf (pA a 1))], []⟩, objs := fun l => (kGet (refA (pA a 0)) l).os w, hk := fun _ => hkIns_s (refA (pA a 0)) (strOf (pA a 1)) (tokOf (pA a 1)) [] }
noncomputable def knHook_s (w : World) : Code → Option Hr := bHook 7635746451779523968930960996981 refStr (knG_s w)
theorem knew_specQ_s (w : World) (k : KP) (x : Str) (tx : Nat) : SpecC pr w (ktA w) 111 1 555 5550 (.builtin "type.__call__" ⟨[.ref k.C, .str x tx], []⟩) k.as (k.os w) (hkIns_s k.C x tx []) :=
  (knew_spec_s w k.C k.N k.T k.S k.f0 _ _ _ _ _ _ _ _ _ _ _ _ _ _ _ _ _ _ _ _ _ _ x tx _ _ _ _).more (needs' := k.as) (objs' := k.os w) (σ' := hkIns_s k.C x tx []) [0, 1, 2, 3, 4] rfl rfl (show ∀ i ∈ [0, 1, 2, 3, 4], i < 10 by decide) (by decide) rfl (fun _ _ => rfl) rfl rfl rfl rfl (fun _ _ => rfl) rfl
theorem kn_hook_s (w : World) : HookS pr w (ktA w) 111 1 555 5550 (knHook_s w) :=
  bHook_n (name := "type.__call__") (by decide +kernel) 10 (fun _ _ => rfl) fun a f _ => knew_specQ_s w (kGet (refA (pA a 0)) ((List.range 10).map f)) (strOf (pA a 1)) (tokOf (pA a 1))
theorem kcall_spec_s (w : World) (k : KP) (x : Str) (tx : Nat) : SpecC pr w (ktA w) 111 1 550 5500 (.call (.ref k.C) ⟨[.str x tx], []⟩) k.as (k.os w) (hkIns_s k.C x tx (k.os w)) :=
  spec_run (dmh := 555) (umh := 5550) (hook := knHook_s w) 1000 (dec9 14 0x2611078341609038140601008040201) [10, 11] [] (ktA_bound w) (kn_hook_s w) rfl rfl (fun _ _ => rfl) rfl rfl (show [10, 11].Nodup by decide) (orc0 (by kernel_rfl))
theorem ltS_spec_s (w : World) (k : KP) (dx : Option Addr) (a : Str) (ta : Nat) (x : Addr) (hfn : k.fn = 37) :
    SpecC pr w (ktA w) 111 1 570 5700 (.call (.ref k.f1) ⟨[.ref x, .ref x], []⟩) (k.as ++ [x]) (k.os w ++ [insO k.C dx #[some (.str a ta)]])
      (hkBool (ltC a a) (k.os w ++ [insO k.C dx #[some (.str a ta)]])) := by
  cases k
  cases hfn
  exact spec_run (dmh := 750) (umh := 7500) (hook := mdHook) 1000 (dec9 56 0xc86432190006432190c80000000085412090180402090480c02010a80c02010a85c0215048240601008241203008042a03008042a17078002e170b85c1a0b) [] [] (ktA_bound w) (md_hook w) rfl rfl (fun _ _ => rfl) rfl rfl List.nodup_nil (orc1 (by kernel_rfl))
theorem ltK_spec_s (w : World) (k : KP) (dx dy : Option Addr) (a b : Str) (ta tb : Nat) (x y : Addr) (hfn : k.fn = 37) :
    SpecC pr w (ktA w) 111 1 570 5700 (.call (.ref k.f1) ⟨[.ref x, .ref y], []⟩) (k.as ++ [x, y]) (k.os w ++ [insO k.C dx #[some (.str a ta)], insO k.C dy #[some (.str b tb)]])
      (hkBool (ltC a b) []) := by
  cases k
  cases hfn
  exact (lt_spec_s w _ _ 0 _ _ _ _ _ _ _ _ _ _ _ _ dx dy _ _ _ _ _ _ _ _ _ _ _ _ a b ta tb _ _ _ _ x y).more [5, 6, 7, 10, 11, 0, 1, 4] rfl rfl (show ∀ i ∈ [5, 6, 7, 10, 11, 0, 1, 4], i < 12 by decide) (by decide) rfl (fun _ _ => rfl) rfl rfl rfl rfl (fun _ _ => rfl) rfl
noncomputable abbrev valS (x : Str × Nat) : Value := .str x.1 x.2
theorem key_new_s {w : World} {k : KP} {h₀ h : Heap} {g : Array GenState} {d : Drawn} {t : Nat} {os : OsState} {x : Str × Nat} {Q : Value → Shared → Prop} {E : Value → Shared → Prop} (K : KOn w k h₀) (hk : Kp h₀ h) (ht : 1 ≤ t)
    (hq : ∀ i h' t', Kp h h' → h.objs.size ≤ i → 1 ≤ t' → Ins k.C h' i (valS x) → Q (.ref i) ⟨h', g, d, t', os⟩) : wpAny (model pr w) (An 540 5400) (call (.ref k.C) [valS x]) Q E ⟨h, g, d, t, os⟩ := by
  have K' := K.mono hk
  refine wpAny_call ((kcall_spec_s w k x.1 x.2).go rfl (by show 540 ≤ 550; omega) (by show 5400 ≤ 5500; omega) K'.top K'.size ht K'.get rfl (fun _ h => (nomatch h)) K'.nd K'.far fun h' t' tv av ht' htv hav htk Af => ?_)
  obtain ⟨dc, i, rfl⟩ : ∃ dc i, av = [dc, i] := by
    match av, hav with
    | [a, b], _ => exact ⟨a, b, rfl⟩
  have n1 := Af.news 1 i (insO k.C (some dc) #[some (valS x)]) rfl rfl
  exact hq i h' t' (Af.kp rfl K'.get) n1.1 ht' ⟨Nat.le_trans K'.size n1.1, dc, n1.2.2⟩
end Mine
end
section
open PySem PySem.W PyProof.Rows PySem.W.X Mine
set_option Elab.async false
set_option maxRecDepth 100000
set_option maxHeartbeats 0
set_option linter.unusedVariables false
namespace Mine
theorem list_sort_key (a C : Addr) : Builtin.«list.sort» ⟨[.ref a], [(Str.ofString "key", .ref C)]⟩ = (do
    let items ← Builtin.List.listItems (.ref a)
    Builtin.List.listUpdate (.ref a) fun _ => #[]
    let before ← seqEpoch a
    let held ← newTuple items.toList
    let keyStore ← newList []
    holding [held, keyStore] do
      rule "list.sort.key"
      for x in items do
        match ← (call (.ref C) [x]).attempt with
        | .ok k => Builtin.List.listUpdate keyStore (·.push k)
        | .error e =>
          rule "list.sort.key-raised"
          let made ← Builtin.List.listItems keyStore
          Builtin.List.listUpdate keyStore fun _ => #[]
          letGo made.toList.reverse [e]
          Builtin.List.listUpdate (.ref a) fun _ => items; throw e
      let keys ← Builtin.List.listItems keyStore
      let kind ← if items.size < 2 then pure general' else keyKind' keys
      let ((), s) ← (if items.size < 2 then pure () else sortRuns').run (SortSt.mk' kind (keys.zip items) #[] 7 none)
      let sorted := (arrOf s).map (·.2)
      Builtin.List.listUpdate keyStore fun _ => #[]
      letGo ((arrOf s).map (·.1)).toList (failedOf s).toList
      let touched := (← seqEpoch a) != before
      Builtin.List.listUpdate (.ref a) fun _ => sorted
      if let some e := failedOf s then rule "list.sort.comparison-raised"; throw e
      if touched then rule "list.sort.modified"; raiseError "ValueError" "list modified during sort"
      ret .none) := by kernel_rfl
structure SortOn (w : World) (C : Addr) {β : Type} (val : β → Value) (R : β → β → Bool) (dd uu : Nat) (h₀ : Heap) : Prop where
  new : ∀ {h : Heap} {g : Array GenState} {d : Drawn} {t : Nat} {os : OsState} {x : β} {Q : Value → Shared → Prop} {E : Value → Shared → Prop}, Kp h₀ h → 1 ≤ t →
    (∀ i h' t', Kp h h' → h.objs.size ≤ i → 1 ≤ t' → Ins C h' i (val x) → Q (.ref i) ⟨h', g, d, t', os⟩) → wpAny (model pr w) (An dd uu) (call (.ref C) [val x]) Q E ⟨h, g, d, t, os⟩
  lt : ∀ {h : Heap} {g : Array GenState} {d : Drawn} {t : Nat} {os : OsState} {x y : β} {i j : Addr} {Q : Bool → Shared → Prop} {E : Value → Shared → Prop}, Kp h₀ h → 1 ≤ t → Ins C h i (val x) → Ins C h j (val y) →
    (∀ h' t', Kp h h' → 1 ≤ t' → Q (R x y) ⟨h', g, d, t', os⟩) → wpAny (model pr w) (An dd uu) (keyLt' oneType' (.ref i) (.ref j)) Q E ⟨h, g, d, t, os⟩
noncomputable def kasRun {α : Type} (f : Nat → Nat → Bool) : KasT α → α
  | .ret a => a
  | .ask i j k => kasRun f (k (f i j))
noncomputable def kasGood {α : Type} (n : Nat) (f : Nat → Nat → Bool) : KasT α → Prop
  | .ret _ => True
  | .ask i j k => (i < n ∧ j < n) ∧ kasGood n f (k (f i j))
theorem kas_run_wp {α : Type} {cmp : Nat → Nat → (Bool → Shared → Prop) → Shared → Prop} {n : Nat} {f : Nat → Nat → Bool} {Inv : Shared → Prop} (h : ∀ i j C s, i < n → j < n → Inv s → (∀ s', Inv s' → C (f i j) s') → cmp i j C s) :
    ∀ (t : KasT α) (Q : α → Shared → Prop) (s : Shared), kasGood n f t → Inv s → (∀ s', Inv s' → Q (kasRun f t) s') → t.kasWp cmp Q s
  | .ret a, Q, s, _, hi, hq => hq s hi
  | .ask i j k, Q, s, hg, hi, hq => by
    exact h i j _ s hg.1.1 hg.1.2 hi fun s' hi' => kas_run_wp h (k (f i j)) Q s' hg.2 hi' hq
noncomputable def ansOf {β : Type} (R : β → β → Bool) (ys : List β) (i j : Nat) : Bool := match ys[i]?, ys[j]? with
  | some x, some y => R x y
  | _, _ => false
noncomputable def sortOut {β : Type} (val : β → Value) (R : β → β → Bool) (ys : List β) : List Value := (kasRun (ansOf R ys) (kas_sort ys.length)).toList.map fun i => (ys.map val).getD i .none
section
variable {w : World} {g : Array GenState} {d : Drawn} {os : OsState} {h₁ : Heap} {C K : Addr} {β : Type} {val : β → Value} {R : β → β → Bool}
noncomputable def KeysAt (C : Addr) (val : β → Value) (h : Heap) (ks : List Addr) (xs : List β) : Prop := ks.length = xs.length ∧ ∀ (i : Nat) k x, ks[i]? = some k → xs[i]? = some x → Ins C h k (val x)
theorem KeysAt.mono {h h' : Heap} {ks : List Addr} {xs : List β} (x : KeysAt C val h ks xs) (p : Kp h h') : KeysAt C val h' ks xs := ⟨x.1, fun i k y e1 e2 => (x.2 i k y e1 e2).mono p⟩
theorem KeysAt.same {h h' : Heap} {ks : List Addr} {xs : List β} {o : Obj} (x : KeysAt C val h ks xs) (hs : Heap.SameBut K h h') (hK : h.get? K = some o) (hc : o.cls ≠ .ref C) : KeysAt C val h' ks xs :=
  ⟨x.1, fun i k y e1 e2 => by
    obtain ⟨l, dc, e⟩ := x.2 i k y e1 e2
    refine ⟨l, dc, (hs.2 k fun q => ?_).trans e⟩
    subst q
    rw [hK] at e
    cases e
    exact hc rfl⟩
theorem keys_loop (S : SortOn w C val R 540 5400 h₁) (hK : h₁.objs.size ≤ K) {a : Addr} {items : Array Value} {A : Around} (hA : A.handled = none) (hd : A.depth ≤ 540) (hu : A.units ≤ 5400) {Q : PUnit → Shared → Prop} {E : Value → Shared → Prop} :
    ∀ (r : List β) (ks : List Addr) (dn : List β) (h : Heap) (t c : Nat), Kp h₁ h → 1 ≤ t → h.get? K = some (seqObj "list" (ks.map Value.ref).toArray c) → KeysAt C val h ks dn → dn.length + r.length ≤ 1000 →
      (∀ h' t' ks' c', Kp h₁ h' → 1 ≤ t' → h'.get? K = some (seqObj "list" (ks'.map Value.ref).toArray c') → KeysAt C val h' ks' (dn ++ r) → Q ⟨⟩ ⟨h', g, d, t', os⟩) →
      wpAny (model pr w) A (forIn (r.map val) PUnit.unit fun x _ => do
        match ← (call (.ref C) [x]).attempt with
        | .ok k =>
          Builtin.List.listUpdate (.ref K) (·.push k)
          pure (ForInStep.yield PUnit.unit)
        | .error e =>
          rule "list.sort.key-raised"
          let made ← Builtin.List.listItems (.ref K)
          Builtin.List.listUpdate (.ref K) fun _ => #[]
          letGo made.toList.reverse [e]
          Builtin.List.listUpdate (.ref a) fun _ => items
          throw e) Q E ⟨h, g, d, t, os⟩ := by
  intro r
  induction r with
  | nil =>
    intro ks dn h t c hk ht gK ka hl hq
    rw [List.map_nil, List.forIn_nil]
    exact wpAny_pure (hq h t ks c hk ht gK (by rw [List.append_nil]; exact ka))
  | cons x r ih =>
    intro ks dn h t c hk ht gK ka hl hq
    rw [List.map_cons, List.forIn_cons]
    refine wpAny_bind (wpAny_bind (wpAny_attempt (wp_An (d := 540) (u := 5400) hA hd hu (S.new hk ht fun i h2 t2 k2 hi ht2 hx2 => ?_))))
    have gK2 := k2.keep _ _ gK
    have s1 := Heap.SameBut.update h2 K (Obj.mapSeq (·.push (.ref i)))
    have g3 := get?_update_seq gK2 (·.push (.ref i))
    have klen : ks.length = dn.length := ka.1
    dsimp only at hl ⊢
    refine wpAny_bind (listUpdate_at gK2 rfl ?_ (by rw [List.size_toArray, List.length_map, sizeLine_eq]; simp only [List.length_cons] at hl; omega) (by rw [Array.size_push, List.size_toArray, List.length_map, sizeLine_eq]; simp only [List.length_cons] at hl; omega))
    refine wpAny_pure ?_
    have kx : KeysAt C val h2 (ks ++ [i]) (dn ++ [x]) := by
      refine ⟨by simp [klen], fun j k y e1 e2 => ?_⟩
      by_cases hj : j < ks.length
      · rw [List.getElem?_append_left hj] at e1
        rw [List.getElem?_append_left (klen ▸ hj)] at e2
        exact (ka.mono k2).2 j k y e1 e2
      · have hj' : j = ks.length := by
          have := (List.getElem?_eq_some_iff.mp e1).1
          simp at this
          omega
        subst hj'
        rw [List.getElem?_append_right (Nat.le_refl _)] at e1
        rw [klen, List.getElem?_append_right (Nat.le_refl _)] at e2
        simp at e1 e2
        subst e1 e2
        exact hx2
    have hpush : (ks.map Value.ref).toArray.push (.ref i) = ((ks ++ [i]).map Value.ref).toArray := by simp
    obtain ⟨c2, hc2⟩ : ∃ c2, (h2.update K (Obj.mapSeq (·.push (.ref i)))).get? K = some (seqObj "list" ((ks ++ [i]).map Value.ref).toArray c2) := ⟨_, by rw [← hpush]; exact g3⟩
    refine ih (ks ++ [i]) (dn ++ [x]) _ t2 c2 ((hk.trans k2).same s1 hK) ht2 hc2 (kx.same s1 gK2 (by intro e; cases e)) (by simp at hl ⊢; omega) fun h' t' ks' c' p1 p2 p3 p4 => hq h' t' ks' c' p1 p2 p3 (by simpa using p4)
noncomputable def sortAny {β : Type} (val : β → Value) (R : β → β → Bool) (xs : List β) : List Value := if xs.length < 2 then xs.map val else sortOut val R xs
theorem sort_run {A : Around} {E : Value → Shared → Prop} (hA : A.handled = none) (hd : A.depth ≤ 540) (hu : A.units ≤ 5400) {a : Addr} {h : Heap} {t e : Nat} {xs : List β} (Sb : ∀ h₁ : Heap, (∀ b o, h.get? b = some o → b ≠ a → h₁.get? b = some o) → h.objs.size ≤ h₁.objs.size → SortOn w C val R 540 5400 h₁)
    (ga : h.get? a = some (liS (xs.map val) e)) (h64 : xs.length < 64) (ht : 1 ≤ t) (hgood : 2 ≤ xs.length → kasGood xs.length (ansOf R xs) (kas_sort xs.length)) :
    wpAny (model pr w) A (Builtin.«list.sort» ⟨[.ref a], [(Str.ofString "key", .ref C)]⟩) (fun fin s' => fin = .done (.ret .none) ∧ ∃ h' t' e', s' = ⟨h', g, d, t', os⟩ ∧ 1 ≤ t' ∧ h.objs.size ≤ h'.objs.size ∧ (∀ b o, h.get? b = some o → b ≠ a → h'.get? b = some o) ∧ h'.get? a = some (liS (sortAny val R xs) e')) E ⟨h, g, d, t, os⟩ := by
  rw [list_sort_key]
  have hsm : (xs.map val).length ≤ sizeLine := by rw [List.length_map, sizeLine_eq]; omega
  have ha : a < h.objs.size := Heap.lt_size ga
  have s1 := Heap.SameBut.update h a (Obj.mapSeq fun _ => (#[] : Array Value))
  obtain ⟨e1, ga1⟩ : ∃ e1, (h.update a (Obj.mapSeq fun _ => (#[] : Array Value))).get? a = some (liS [] e1) := ⟨_, get?_update_seq (c := "list") (xs := ⟨xs.map val⟩) ga fun _ => (#[] : Array Value)⟩
  refine wpAny_bind (listItems_at ga rfl ?_)
  refine wpAny_bind (listUpdate_at ga rfl ?_ hsm (Nat.zero_le _))
  refine wpAny_bind (seqEpoch_at ga1 rfl ?_)
  refine wpAny_bind (wpAny_newTuple ?_ hsm)
  refine wpAny_bind (wpAny_newList ?_ (Nat.zero_le _))
  refine wpAny_holding ?_
  dsimp only
  generalize hh1 : (h.update a (Obj.mapSeq fun _ => (#[] : Array Value))).push (seqObj "tuple" (⟨xs.map val⟩ : Array Value).toList.toArray 0) = h₁
  have k1 : ∀ b o, h.get? b = some o → b ≠ a → h₁.get? b = some o := fun b o eb hb => by
    rw [← hh1]
    exact Heap.get?_push_of_some _ ((s1.2 b hb).trans eb)
  have z1 : h.objs.size ≤ h₁.objs.size := by rw [← hh1, size_push', Heap.size_update]; exact Nat.le_succ _
  have a1 : h₁.get? a = some (liS [] e1) := by rw [← hh1]; exact Heap.get?_push_of_some _ ga1
  have S := Sb h₁ k1 z1
  generalize hK : h₁.objs.size = K
  have p2 : Kp h₁ (h₁.push (seqObj "list" #[] 0)) := ⟨by rw [size_push']; exact Nat.le_succ _, fun b o eb => Heap.get?_push_of_some _ eb⟩
  have gK : (h₁.push (seqObj "list" #[] 0)).get? K = some (seqObj "list" (([] : List Addr).map Value.ref).toArray 0) := by rw [← hK]; exact Heap.get?_push_size _ rfl
  have hKz : h₁.objs.size ≤ K := Nat.le_of_eq hK
  have hKa : K ≠ a := Nat.ne_of_gt (Nat.lt_of_lt_of_le ha (hK ▸ z1))
  refine wpAny_bind (wpAny_rule ?_)
  rw [← Array.forIn_toList]
  refine wpAny_bind (keys_loop S hKz hA hd hu xs [] [] _ t 0 p2 ht gK ⟨rfl, fun i k x e => by simp at e⟩ (by rw [List.length_nil, Nat.zero_add]; exact Nat.le_trans (Nat.le_of_lt h64) (by decide)) ?_)
  intro h3 t3 ks c3 p3 ht3 gK3 ka3
  rw [List.nil_append] at ka3
  have klen := ka3.1
  have hksm : ((ks.map Value.ref).toArray : Array Value).size ≤ sizeLine := by rw [List.size_toArray, List.length_map, klen, sizeLine_eq]; omega
  refine wpAny_bind (listItems_at gK3 rfl ?_)
  have hsz : (⟨xs.map val⟩ : Array Value).size = xs.length := List.length_map _
  rw [hsz]
  -- the end, alike for both ways
  have fin : ∀ (h4 : Heap) (t4 : Nat) (so : Array Value), Kp h3 h4 → 1 ≤ t4 → so = ⟨sortAny val R xs⟩ → so.size = xs.length →
      ∃ h' t' e', (⟨(h4.update K (Obj.mapSeq fun _ => (#[] : Array Value))).update a (Obj.mapSeq fun _ => so), g, d, t4, os⟩ : Shared) = ⟨h', g, d, t', os⟩ ∧ 1 ≤ t' ∧ h.objs.size ≤ h'.objs.size ∧ (∀ b o, h.get? b = some o → b ≠ a → h'.get? b = some o) ∧ h'.get? a = some (liS (sortAny val R xs) e') := fun h4 t4 so k4 ht4 hso _ => by
    have a4 : h4.get? a = some (liS [] e1) := k4.keep _ _ (p3.keep _ _ a1)
    have s5 := Heap.SameBut.update h4 K (Obj.mapSeq fun _ => (#[] : Array Value))
    have a5 : (h4.update K (Obj.mapSeq fun _ => (#[] : Array Value))).get? a = some (liS [] e1) := (s5.2 a hKa.symm).trans a4
    have s6 := Heap.SameBut.update (h4.update K (Obj.mapSeq fun _ => (#[] : Array Value))) a (Obj.mapSeq fun _ => so)
    have g6 := get?_update_seq (c := "list") (xs := #[]) (n := e1) a5 fun _ => so
    rw [hso] at g6 s6 ⊢
    refine ⟨_, _, _, rfl, ht4, ?_, fun b o eb hb => ?_, g6⟩
    · rw [Heap.size_update, Heap.size_update]
      exact Nat.le_trans z1 (Nat.le_trans p3.size k4.size)
    · have nb : b ≠ K := fun q => by
        have := Heap.lt_size eb
        rw [q] at this
        exact absurd this (Nat.not_lt.mpr (hK ▸ z1))
      exact (s6.2 b hb).trans ((s5.2 b nb).trans (k4.keep _ _ (p3.keep _ _ (k1 b o eb hb))))
  have up5 : ∀ {h4 : Heap}, Kp h3 h4 → (h4.update K (Obj.mapSeq fun _ => (#[] : Array Value))).get? a = some (liS [] e1) := fun {h4} k4 => ((Heap.SameBut.update h4 K (Obj.mapSeq fun _ => (#[] : Array Value))).2 a hKa.symm).trans (k4.keep _ _ (p3.keep _ _ a1))
  by_cases hn2 : xs.length < 2
  · rw [if_pos hn2, if_pos hn2]
    refine wpAny_bind (wpAny_pure ?_)
    refine wpAny_bind (wpAny_pure ?_)
    dsimp only
    refine wpAny_bind (listUpdate_at gK3 rfl ?_ hksm (Nat.zero_le _))
    refine wpAny_bind (wpAny_letGo ?_)
    refine wpAny_bind (seqEpoch_at (up5 (Kp.refl _)) rfl ?_)
    generalize hso : (arrOf (SortSt.mk' general' ((ks.map Value.ref).toArray.zip (⟨xs.map val⟩ : Array Value)) #[] 7 none)).map (·.2) = so
    have hout : so = ⟨xs.map val⟩ := by
      rw [← hso]
      apply Array.toList_inj.mp
      show ((((ks.map Value.ref).toArray.zip (⟨xs.map val⟩ : Array Value))).map (·.2)).toList = xs.map val
      rw [Array.toList_map, Array.toList_zip]
      exact List.map_snd_zip (by simp [klen])
    have hosz : so.size = xs.length := by rw [hout]; exact hsz
    refine wpAny_bind (listUpdate_at (up5 (Kp.refl _)) rfl ?_ (Nat.zero_le _) (by rw [hosz, sizeLine_eq]; omega))
    simp only [bne_self_eq_false, Bool.false_eq_true, if_false]
    exact wpAny_pure ⟨rfl, fin h3 t3 so (Kp.refl _) ht3 (hout.trans (by unfold sortAny; rw [if_pos hn2])) hosz⟩
  · have h2 : 2 ≤ xs.length := Nat.le_of_not_lt hn2
    rw [if_neg hn2, if_neg hn2]
    refine wpAny_bind (kas_kind (T := .ref C) (vs := ks.map Value.ref) (by rw [List.length_map, klen]; exact h2) (fun v hv => ?_) rfl (beq_self_eq_true _) ?_)
    · obtain ⟨k, hk, rfl⟩ := List.mem_map.mp hv
      obtain ⟨i, hi⟩ := List.getElem?_of_mem hk
      have hlt : i < xs.length := by rw [← klen]; exact (List.getElem?_eq_some_iff.mp hi).1
      obtain ⟨_, dc, gk⟩ := ka3.2 i k _ hi (List.getElem?_eq_getElem hlt)
      exact show Looks _ h3 (typeOf (.ref k)) (insO C (some dc) #[some (val (xs[i]'hlt))]).cls from (Looks.ld gk).andThen .now
    generalize hit : ((ks.map Value.ref).toArray.zip (⟨xs.map val⟩ : Array Value)) = it
    have hits : it.size = xs.length := by rw [← hit]; simp [klen]
    have est : SortSt.mk' oneType' it #[] 7 none = kas_st oneType' it (List.toArray (List.range it.size)) := by
      have q := kas_range it
      show SortSt.mk' oneType' it #[] 7 none = SortSt.mk' oneType' ((List.toArray (List.range it.size)).map (kas_item it)) #[] 7 none
      rw [q]
    have item : ∀ i, i < xs.length → ∃ k x, xs[i]? = some x ∧ kas_item it i = (.ref k, val x) ∧ Ins C h3 k (val x) := by
      intro i hi
      have hjk : i < ks.length := by rw [klen]; exact hi
      refine ⟨ks[i], xs[i], List.getElem?_eq_getElem hi, ?_, ka3.2 _ _ _ (List.getElem?_eq_getElem hjk) (List.getElem?_eq_getElem hi)⟩
      have hb : i < it.size := by rw [hits]; exact hi
      have e1 : kas_item it i = it[i] := by unfold kas_item; simp [Array.getD, hb]
      rw [e1]
      subst hit
      simp
    have run := kas_runs (prog := pr) (w := w) (A := A) (κ := oneType') (it := it) (n := xs.length) (E := NoE) (s := ⟨h3, g, d, t3, os⟩)
      (Q := fun _ st' s' => ∃ p : Array Nat, arrOf st' = p.map (kas_item it) ∧ p.size = xs.length ∧ failedOf st' = none ∧ p = kasRun (ansOf R xs) (kas_sort xs.length) ∧ ∃ h' t', s' = ⟨h', g, d, t', os⟩ ∧ Kp h3 h' ∧ 1 ≤ t')
      (G := fun p s' => p = kasRun (ansOf R xs) (kas_sort xs.length) ∧ ∃ h' t', s' = ⟨h', g, d, t', os⟩ ∧ Kp h3 h' ∧ 1 ≤ t') (by first | omega | (simp; omega)) (by first | omega | (simp; omega)) (fun p' st' s' q1 q2 q3 q4 => ⟨p', q2, q1, q3, q4.1, q4.2⟩) ?_
    rotate_left
    · refine kas_run_wp (n := xs.length) (f := ansOf R xs) (Inv := fun s' => ∃ h' t', s' = ⟨h', g, d, t', os⟩ ∧ Kp h3 h' ∧ 1 ≤ t') (fun i j C' s' hi hj hI hC => ?_) _ _ _ (hgood h2) ⟨h3, t3, rfl, Kp.refl _, ht3⟩ fun s' hI => ⟨rfl, hI⟩
      obtain ⟨h', t', rfl, k', ht'⟩ := hI
      obtain ⟨ki, xi, x1, x2, x3⟩ := item i hi
      obtain ⟨kj, xj, y1, y2, y3⟩ := item j hj
      unfold kas_cmp
      rw [x2, y2]
      refine wp_An (d := 540) (u := 5400) hA hd hu (S.lt (p3.trans k') ht' (x3.mono k') (y3.mono k') fun h'' t'' k'' ht'' => ?_)
      have e : ansOf R xs i j = R xi xj := by unfold ansOf; rw [x1, y1]
      rw [← e]
      exact hC _ ⟨h'', t'', rfl, k'.trans k'', ht''⟩
    rw [est]
    have est2 : it.size = xs.length := by rw [hits] <;> simp
    rw [est2]
    refine wpAny_bind (wpAny_mono run ?_ fun _ _ q => q.elim)
    rintro ⟨⟨⟩, st'⟩ s' ⟨p, har, hps, hf, hp, h4, t4, rfl, k4, ht4⟩
    dsimp only
    have gK4 := k4.keep _ _ gK3
    refine wpAny_bind (listUpdate_at gK4 rfl ?_ hksm (Nat.zero_le _))
    refine wpAny_bind (wpAny_letGo ?_)
    refine wpAny_bind (seqEpoch_at (up5 k4) rfl ?_)
    have hout : ((arrOf st').map (·.2)) = ⟨sortOut val R xs⟩ := by
      apply Array.toList_inj.mp
      rw [har, Array.map_map]
      show ((p.map fun i => (kas_item it i).2)).toList = sortOut val R xs
      have q : (p.map fun i => (kas_item it i).2).toList = sortOut val R xs := by
        rw [Array.toList_map]
        unfold sortOut
        rw [← hp]
        refine List.map_congr_left fun i hi => ?_
        by_cases hlt : i < xs.length
        · obtain ⟨k, x, x1, x2, _⟩ := item i hlt
          rw [x2]
          rw [List.getD_eq_getElem?_getD, List.getElem?_map, x1]
          rfl
        · have hb : ¬ i < it.size := by rw [est2]; exact hlt
          have e1 : ((xs.map val).getD i Value.none) = Value.none := by rw [List.getD_eq_getElem?_getD, List.getElem?_map, List.getElem?_eq_none (Nat.le_of_not_lt hlt)]; rfl
          rw [e1]
          unfold kas_item
          simp [Array.getD, hb]
      exact q
    have hosz : ((arrOf st').map (·.2)).size = xs.length := by
      rw [har]
      simp [hps]
    refine wpAny_bind (listUpdate_at (up5 k4) rfl ?_ (Nat.zero_le _) (by rw [hosz, sizeLine_eq]; omega))
    rw [hf]
    simp only [bne_self_eq_false, Bool.false_eq_true, if_false]
    exact wpAny_pure ⟨rfl, fin h4 t4 _ k4 ht4 (hout.trans (by unfold sortAny; rw [if_neg hn2])) hosz⟩
end
end Mine
end
section
open PySem PySem.W PyProof.Rows PySem.W.X Mine
set_option Elab.async false
set_option maxRecDepth 100000
set_option maxHeartbeats 4000000
set_option linter.unusedVariables false
namespace Mine
theorem wp_grow {M : Model} {Γ : Ctx} {X : Type} {E : Value → Pos → Shared → Prop} (t : Sem X) : ∀ {Q : X → Pos → Shared → Prop} {p : Pos} {s : Shared}, Sem.wp M Γ t Q E p s → Sem.wp M Γ t (fun a p' s' => Q a p' s' ∧ Gw s.heap s'.heap ∧ s.toks ≤ s'.toks) E p s := by
  induction t with
  | pure x => exact fun h => ⟨h, Gw.refl _, Nat.le_refl _⟩
  | raise v => exact id
  | unsupported | finish | yield | fork | await | register => exact id
  | rule _ k ih | «at» _ k ih | loadIfAlive _ k ih | point _ k ih | ask k ih | os _ _ k ih | handled _ k ih | newGen _ k ih | stack k ih | thread k ih => exact fun h => ih _ h
  | alloc o k ih => exact fun h => Sem.wp_mono M Γ _ (fun _ _ _ q => ⟨q.1, (Gw.push _ _).trans q.2.1, q.2.2⟩) (fun _ _ _ q => q) _ _ (ih _ h)
  | fresh k ih => exact fun h => Sem.wp_mono M Γ _ (fun _ _ _ q => ⟨q.1, q.2.1, Nat.le_trans (Nat.le_succ _) q.2.2⟩) (fun _ _ _ q => q) _ _ (ih _ h)
  | load a _ k ih | genState a k ih => exact fun ⟨o, ho, h⟩ => ⟨o, ho, ih _ h⟩
  | update a _ f k ih => exact fun ⟨ha, h⟩ => ⟨ha, Sem.wp_mono M Γ _ (fun _ _ _ q => ⟨q.1, (Gw.update _ ha).trans q.2.1, q.2.2⟩) (fun _ _ _ q => q) _ _ (ih _ h)⟩
  | choose _ _ k ih => exact fun ⟨ha, h⟩ => ⟨ha, ih _ h⟩
  | call c h g l k ih =>
    intro Q p s
    rintro ⟨r, s', hr, hR⟩
    exact ⟨r, s', hr, Sem.wp_mono M Γ _ (fun _ _ _ q => ⟨q.1, (runs_grow hr).trans q.2.1, Nat.le_trans (runs_toks hr) q.2.2⟩) (fun _ _ _ q => q) _ _ (ih r hR)⟩
  | resume g r l k ih =>
    intro Q p s
    rintro ⟨res, s', hw, h⟩
    have hr : Runs M Γ p (.resume g r l (fun _ => .pure (.done .next))) [] s (.ret (.ok .next)) s' := (Sem.runs_resume_iff M Γ).mpr ⟨res, s', hw, .done⟩
    exact ⟨res, s', hw, Sem.wp_mono M Γ _ (fun _ _ _ q => ⟨q.1, (runs_grow hr).trans q.2.1, Nat.le_trans (runs_toks hr) q.2.2⟩) (fun _ _ _ q => q) _ _ (ih res h)⟩
theorem wpAny_grow {M : Model} {A : Around} {X : Type} {t : Sem X} {Q : X → Shared → Prop} {E : Value → Shared → Prop} {s : Shared} (h : wpAny M A t Q E s) : wpAny M A t (fun a s' => Q a s' ∧ Gw s.heap s'.heap ∧ s.toks ≤ s'.toks) E s :=
  fun Γ p hΓ => wp_grow t (h Γ p hΓ)
end Mine
end
section
open PySem PySem.W PyProof.Rows PySem.W.X Mine
set_option Elab.async false
set_option maxRecDepth 100000
set_option maxHeartbeats 4000000
set_option linter.unusedVariables false
namespace Mine
noncomputable def KasOk {α : Type} (n : Nat) (f : Nat → Nat → Bool) (t : KasT α) (P : α → Prop) : Prop := kasGood n f t ∧ P (kasRun f t)
section
variable {α β : Type} {n : Nat} {f : Nat → Nat → Bool}
theorem KasOk.ret {a : α} {P : α → Prop} (h : P a) : KasOk n f (.ret a) P := ⟨trivial, h⟩
theorem KasOk.ask {i j : Nat} {k : Bool → KasT α} {P : α → Prop} (hi : i < n) (hj : j < n) (h : KasOk n f (k (f i j)) P) : KasOk n f (.ask i j k) P := ⟨⟨⟨hi, hj⟩, h.1⟩, h.2⟩
theorem KasOk.bind {g : α → KasT β} {P : β → Prop} : ∀ {t : KasT α}, KasOk n f t (fun a => KasOk n f (g a) P) → KasOk n f (t.bind g) P
  | .ret a, h => h.2
  | .ask i j k, h => by
    have z : KasOk n f ((k (f i j)).bind g) P := KasOk.bind ⟨h.1.2, h.2⟩
    exact KasOk.ask (k := fun b => (k b).bind g) h.1.1.1 h.1.1.2 z
theorem KasOk.mono {t : KasT α} {P P' : α → Prop} (h : KasOk n f t P) (hp : ∀ a, P a → P' a) : KasOk n f t P' := ⟨h.1, hp _ h.2⟩
end
noncomputable def kV (c : Nat → Nat) (p : Array Nat) (k : Nat) : Nat := c (p.getD k 0)
noncomputable def kPm (n : Nat) (p : Array Nat) : Prop := p.Perm (List.range n).toArray
theorem kPm.size {n : Nat} {p : Array Nat} (h : kPm n p) : p.size = n := by
  have := h.toList.length_eq
  simpa using this
theorem kPm.lt {n : Nat} {p : Array Nat} (h : kPm n p) (hn : 1 ≤ n) (i : Nat) : p.getD i 0 < n := by
  by_cases hi : i < p.size
  · have e : p.getD i 0 = p[i] := by simp [Array.getD, hi]
    rw [e]
    have m : p[i] ∈ p.toList := by simp
    have := h.toList.mem_iff.mp m
    simpa using this
  · have e : p.getD i 0 = 0 := by simp [Array.getD, hi]
    rw [e]
    exact hn
theorem kV_get {c : Nat → Nat} {p q : Array Nat} {i j : Nat} (h : p[i]? = q[j]?) : kV c p i = kV c q j := by
  unfold kV
  rw [show p.getD i 0 = q.getD j 0 from by rw [Array.getD_eq_getD_getElem?, Array.getD_eq_getD_getElem?, h]]
noncomputable def kUp (c : Nat → Nat) (p : Array Nat) (k : Nat) : Prop := ∀ j, j + 1 < k → kV c p j ≤ kV c p (j + 1)
noncomputable def kDn (c : Nat → Nat) (p : Array Nat) (k : Nat) : Prop := ∀ j, j + 1 < k → kV c p (j + 1) ≤ kV c p j
theorem shf (k r : Nat) : k + 1 + r = k + (r + 1) := Nat.succ_add_eq_add_succ k r
theorem up_all {c : Nat → Nat} {p : Array Nat} {k : Nat} (h : kUp c p k) (i : Nat) : ∀ d, i + d < k → kV c p i ≤ kV c p (i + d)
  | 0, _ => Nat.le_refl _
  | d + 1, hd => Nat.le_trans (up_all h i d (Nat.lt_of_succ_lt hd)) (h (i + d) hd)
theorem up_le {c : Nat → Nat} {p : Array Nat} {k : Nat} (h : kUp c p k) {i j : Nat} (hij : i ≤ j) (hj : j < k) : kV c p i ≤ kV c p j := by
  obtain ⟨d, rfl⟩ := Nat.exists_eq_add_of_le hij
  exact up_all h i d hj
theorem rev_ix {k j : Nat} (h : j + 1 < k) : 0 + k - 1 - j = (0 + k - 1 - (j + 1)) + 1 ∧ (0 + k - 1 - (j + 1)) + 1 < k := by
  obtain ⟨t, rfl⟩ := Nat.exists_eq_add_of_lt h
  rw [Nat.zero_add, Nat.add_sub_cancel, Nat.add_sub_cancel_left, Nat.add_assoc j 1 t, Nat.add_sub_cancel_left]
  exact ⟨Nat.add_comm 1 t, Nat.succ_lt_succ (Nat.lt_of_lt_of_le (Nat.lt_add_of_pos_left Nat.one_pos) (Nat.le_add_left _ _))⟩
theorem one_ix {k i q : Nat} (a : k + 1 - (q + 1 + 1) ≤ i) : k - (q + 1) ≤ i := by rwa [Nat.succ_sub_succ] at a
theorem same_ix {k i : Nat} (a : k + 1 - (0 + 1) ≤ i) (b : i < k + 1) : i = k := Nat.le_antisymm (Nat.le_of_lt_succ b) a
theorem mir_ix {k q i : Nat} (hq : q + 1 ≤ k) (h1 : k - (q + 1) ≤ i) (h2 : i < k) : k - (q + 1) ≤ k - (q + 1) + k - 1 - i ∧ k - (q + 1) + k - 1 - i < k := by omega
theorem mid_lo {l m : Nat} (h : l < m) : l ≤ (l + m) / 2 := by omega
theorem mid_hi {l m : Nat} (h : l < m) : (l + m) / 2 < m := by omega
theorem mid_ix {l m k r : Nat} (h1 : ¬ l ≥ m) (h2 : m ≤ k) (h3 : m - l ≤ r + 1) : l ≤ (l + m) / 2 ∧ (l + m) / 2 < m ∧ (l + m) / 2 < k ∧ (l + m) / 2 - l ≤ r ∧ m - ((l + m) / 2 + 1) ≤ r :=
  have a := mid_lo (Nat.lt_of_not_le h1)
  have b := mid_hi (Nat.lt_of_not_le h1)
  ⟨a, b, Nat.lt_of_lt_of_le b h2, Nat.le_of_lt_succ (Nat.lt_of_lt_of_le (Nat.sub_lt_sub_right a b) h3), Nat.le_trans (Nat.sub_le_sub_left (Nat.succ_le_succ a) m) (Nat.pred_le_pred h3)⟩
section
variable {c : Nat → Nat} {n : Nat}
theorem kRev {p : Array Nat} (hp : kPm n p) {i j : Nat} (hj : j ≤ n) (k : Nat) : kV c (kas_rev p i j) k = if i ≤ k ∧ k < j then kV c p (i + j - 1 - k) else kV c p k := by
  have z := getElem?_mirror_all (xs := p) (i := i) (j := j) (by rw [hp.size]; exact hj) k
  split at z
  · rw [if_pos (by assumption)]; exact kV_get z
  · rw [if_neg (by assumption)]; exact kV_get z
theorem kPm.rev {p : Array Nat} (hp : kPm n p) (i j : Nat) : kPm n (kas_rev p i j) := (mirror_perm p i j _).trans hp
theorem snoc {P : Nat → Prop} {k : Nat} (h : ∀ j, j + 1 < k → P j) (hk : P (k - 1)) (h1 : 1 ≤ k) : ∀ j, j + 1 < k + 1 → P j := fun j hj => by
  rcases Nat.lt_or_eq_of_le (Nat.le_of_lt_succ hj) with e | e
  · exact h j e
  · rw [← e] at hk
    exact hk
theorem kUp.snoc {p : Array Nat} {k : Nat} (h : kUp c p k) (h1 : 1 ≤ k) (hk : kV c p (k - 1) ≤ kV c p k) : kUp c p (k + 1) :=
  Mine.snoc h (by show kV c p (k - 1) ≤ kV c p (k - 1 + 1); rw [Nat.sub_add_cancel h1]; exact hk) h1
theorem kDn.snoc {p : Array Nat} {k : Nat} (h : kDn c p k) (h1 : 1 ≤ k) (hk : kV c p k ≤ kV c p (k - 1)) : kDn c p (k + 1) :=
  Mine.snoc h (by show kV c p (k - 1 + 1) ≤ kV c p (k - 1); rw [Nat.sub_add_cancel h1]; exact hk) h1
noncomputable def kF (c : Nat → Nat) (i j : Nat) : Bool := decide (c i < c j)
theorem kF_true {p : Array Nat} {i j : Nat} (h : kF c (p.getD i 0) (p.getD j 0) = true) : kV c p i < kV c p j := of_decide_eq_true h
theorem kF_false {p : Array Nat} {i j : Nat} (h : kF c (p.getD i 0) (p.getD j 0) = false) : kV c p j ≤ kV c p i := Nat.le_of_not_lt (of_decide_eq_false h)
theorem kAsc {p : Array Nat} (hp : kPm n p) (hn : 1 ≤ n) : ∀ (r k : Nat), 1 ≤ k → kUp c p k → KasOk n (kF c) (kas_asc p r k) fun m => k ≤ m ∧ m ≤ k + r ∧ kUp c p m ∧ (m < k + r → kV c p m < kV c p (m - 1))
  | 0, k, h1, hu => .ret ⟨Nat.le_refl _, Nat.le_refl _, hu, fun q => absurd q (Nat.lt_irrefl _)⟩
  | r + 1, k, h1, hu => by
    refine .ask (hp.lt hn _) (hp.lt hn _) ?_
    cases e : kF c (p.getD k 0) (p.getD (k - 1) 0) with
    | true => exact .ret ⟨Nat.le_refl _, Nat.le_add_right .., hu, fun _ => kF_true e⟩
    | false =>
      have z := kAsc hp hn r (k + 1) (Nat.le_add_left 1 k) (hu.snoc h1 (kF_false e))
      rw [shf] at z
      exact z.mono fun m ⟨a1, a2, a3, a4⟩ => ⟨Nat.le_of_succ_le a1, a2, a3, a4⟩
noncomputable def kEq (c : Nat → Nat) (p : Array Nat) (k q : Nat) : Prop := ∀ i, k - (q + 1) ≤ i → i < k → kV c p i = kV c p (k - 1)
theorem kRevEq {p : Array Nat} (hp : kPm n p) {k q : Nat} (hk : k ≤ n) (hq : q + 1 ≤ k) (he : kEq c p k q) (i : Nat) : kV c (kas_rev p (k - (q + 1)) k) i = kV c p i := by
  rw [kRev hp hk]
  split
  · rename_i h
    obtain ⟨z1, z2⟩ := mir_ix hq h.1 h.2
    rw [he _ z1 z2, he i h.1 h.2]
  · rfl
noncomputable def kDe (c : Nat → Nat) (n k l : Nat) (x : Array Nat × Nat × Nat) : Prop := kPm n x.1 ∧ k ≤ x.2.1 ∧ x.2.1 ≤ l ∧ x.2.2 + 1 ≤ x.2.1 ∧ kDn c x.1 x.2.1 ∧ kEq c x.1 x.2.1 x.2.2
theorem kDe.less {k l : Nat} {x : Array Nat × Nat × Nat} (h : kDe c n (k + 1) l x) : kDe c n k l x := ⟨h.1, Nat.le_of_succ_le h.2.1, h.2.2⟩
theorem kEq.one (p : Array Nat) (k : Nat) : kEq c p (k + 1) 0 := fun i a b => by rw [same_ix a b, Nat.add_sub_cancel]
theorem kDesc (hn : 1 ≤ n) : ∀ (r : Nat) (p : Array Nat) (k q : Nat), kPm n p → 1 ≤ k → k + r ≤ n → q + 1 ≤ k → kDn c p k → kEq c p k q → KasOk n (kF c) (kas_desc r p k q) (kDe c n k (k + r))
  | 0, p, k, q, hp, h1, h2, hq, hd, he => .ret ⟨hp, Nat.le_refl _, Nat.le_refl _, hq, hd, he⟩
  | r + 1, p, k, q, hp, h1, h2, hq, hd, he => by
    have h2' := h2
    rw [← shf] at h2'
    have go : ∀ p' q', kPm n p' → q' + 1 ≤ k + 1 → kDn c p' (k + 1) → kEq c p' (k + 1) q' → KasOk n (kF c) (kas_desc r p' (k + 1) q') (kDe c n k (k + (r + 1))) := fun p' q' b1 b2 b3 b4 => by
      have z := kDesc hn r p' (k + 1) q' b1 (Nat.le_add_left 1 k) h2' b2 b3 b4
      rw [shf] at z
      exact z.mono fun x hx => hx.less
    refine .ask (hp.lt hn _) (hp.lt hn _) ?_
    cases e : kF c (p.getD k 0) (p.getD (k - 1) 0) with
    | true =>
      have hlt := kF_true e
      rw [if_pos rfl]
      by_cases hq0 : q > 0
      · rw [if_pos hq0]
        have hv := kRevEq (c := c) hp (Nat.le_trans (Nat.le_add_right ..) h2) hq he
        refine go _ 0 (hp.rev _ _) (Nat.le_add_left 1 k) (fun j hj => ?_) (kEq.one _ _)
        rw [hv j, hv (j + 1)]
        exact hd.snoc h1 (Nat.le_of_lt hlt) j hj
      · rw [if_neg hq0]
        exact go p 0 hp (Nat.le_add_left 1 k) (hd.snoc h1 (Nat.le_of_lt hlt)) (kEq.one _ _)
    | false =>
      have hge := kF_false e
      rw [if_neg Bool.false_ne_true]
      refine .ask (hp.lt hn _) (hp.lt hn _) ?_
      cases e2 : kF c (p.getD (k - 1) 0) (p.getD k 0) with
      | true => exact .ret ⟨hp, Nat.le_refl _, Nat.le_add_right .., hq, hd, he⟩
      | false =>
        rw [if_neg Bool.false_ne_true]
        have heq : kV c p k = kV c p (k - 1) := Nat.le_antisymm (kF_false e2) hge
        refine go p (q + 1) hp (Nat.succ_le_succ hq) (hd.snoc h1 (Nat.le_of_eq heq)) fun i a b => ?_
        rw [Nat.add_sub_cancel]
        rcases Nat.lt_or_eq_of_le (Nat.le_of_lt_succ b) with hi | hi
        · rw [heq]
          exact he i (one_ix a) hi
        · rw [hi]
noncomputable def kEnd (c : Nat → Nat) (n : Nat) (x : Nat × Array Nat) : Prop := kPm n x.2 ∧ 1 ≤ x.1 ∧ x.1 ≤ n ∧ kUp c x.2 x.1
theorem kTail {p : Array Nat} {k : Nat} (hp : kPm n p) (hn : 1 ≤ n) (h1 : 1 ≤ k) (hk : k ≤ n) (hd : kDn c p k) : KasOk n (kF c) (kas_tail3 k n p) (kEnd c n) := by
  refine KasOk.bind ?_
  have hu : kUp c (kas_rev p 0 k) k := fun j hj => by
    obtain ⟨z1, z2⟩ := rev_ix hj
    rw [kRev hp hk, kRev hp hk, if_pos ⟨Nat.zero_le _, Nat.lt_of_succ_lt hj⟩, if_pos ⟨Nat.zero_le _, hj⟩, z1]
    exact hd _ z2
  have z := kAsc (hp.rev 0 k) hn (n - k) k h1 hu
  rw [Nat.add_sub_cancel' hk] at z
  exact z.mono fun m ⟨a1, a2, a3, _⟩ => .ret ⟨hp.rev 0 k, Nat.le_trans h1 a1, a2, a3⟩
theorem kPart {p : Array Nat} {k : Nat} (hp : kPm n p) (hn : 1 ≤ n) (h1 : 1 ≤ k) (hk : k + 1 ≤ n) (hd : kDn c p k) (hl : kV c p k ≤ kV c p (k - 1)) : KasOk n (kF c) (kas_descPart k n p) (kEnd c n) := by
  refine KasOk.bind ?_
  have z := kDesc hn (n - (k + 1)) p (k + 1) 0 hp (Nat.le_add_left 1 k) (Nat.le_of_eq (Nat.add_sub_cancel' hk)) (Nat.le_add_left 1 k) (hd.snoc h1 hl) (kEq.one _ _)
  rw [Nat.add_sub_cancel' hk] at z
  refine z.mono fun x ⟨a0, a1, a2, a3, a4, a5⟩ => ?_
  have h1' : 1 ≤ x.2.1 := Nat.le_trans (Nat.le_add_left 1 k) a1
  by_cases hq : x.2.2 > 0
  · rw [if_pos hq]
    have hv := kRevEq (c := c) a0 a2 a3 a5
    exact kTail (a0.rev _ _) hn h1' a2 fun j hj => by
      rw [hv j, hv (j + 1)]
      exact a4 j hj
  · rw [if_neg hq]
    exact kTail a0 hn h1' a2 a4
theorem kCount {p : Array Nat} (hp : kPm n p) (hn : 1 ≤ n) : KasOk n (kF c) (kas_count n p) (kEnd c n) := by
  refine KasOk.bind ?_
  have z := kAsc (c := c) hp hn (n - 1) 1 (Nat.le_refl _) (fun j hj => absurd hj (Nat.not_lt.mpr (Nat.le_add_left 1 j)))
  rw [Nat.add_sub_cancel' hn] at z
  refine z.mono fun m ⟨a1, a2, a3, a4⟩ => ?_
  by_cases e : m = n
  · rw [if_pos (by rw [e]; exact beq_self_eq_true _)]
    exact .ret ⟨hp, a1, a2, a3⟩
  · rw [if_neg (fun q => e (eq_of_beq q))]
    have hmn : m < n := Nat.lt_of_le_of_ne a2 e
    have hlt := a4 hmn
    by_cases hm : m > 1
    · rw [if_pos hm]
      refine .ask (hp.lt hn _) (hp.lt hn _) ?_
      cases e2 : kF c (p.getD 0 0) (p.getD (m - 1) 0) with
      | true => exact .ret ⟨hp, a1, a2, a3⟩
      | false =>
        rw [if_neg Bool.false_ne_true]
        have hle := kF_false e2
        have hc : ∀ i, i < m → kV c p i = kV c p (m - 1) := fun i hi => Nat.le_antisymm (up_le a3 (Nat.le_sub_one_of_lt hi) (Nat.sub_lt a1 Nat.one_pos)) (Nat.le_trans hle (up_le a3 (Nat.zero_le _) hi))
        have hv : ∀ i, kV c (kas_rev p 0 m) i = kV c p i := fun i => by
          rw [kRev hp a2]
          split
          · rename_i h
            rw [hc _ (Nat.lt_of_le_of_lt (Nat.sub_le _ _) (by rw [Nat.zero_add]; exact Nat.sub_lt a1 Nat.one_pos)), hc i h.2]
          · rfl
        refine kPart (hp.rev _ _) hn a1 hmn (fun j hj => ?_) ?_
        · rw [hv j, hv (j + 1), hc j (Nat.lt_of_succ_lt hj), hc (j + 1) hj]
          exact Nat.le_refl _
        · rw [hv, hv]
          exact Nat.le_of_lt hlt
    · rw [if_neg hm]
      exact kPart hp hn a1 hmn (fun j hj => absurd (Nat.lt_of_le_of_lt (Nat.le_add_left 1 j) hj) hm) (Nat.le_of_lt hlt)
theorem kPlace {p : Array Nat} {k : Nat} (hp : kPm n p) (hn : 1 ≤ n) (hu : kUp c p k) : ∀ (r l m : Nat), l ≤ m → m ≤ k → m - l ≤ r → (∀ j, j < l → kV c p j ≤ kV c p k) → (∀ j, m ≤ j → j < k → kV c p k < kV c p j) →
    KasOk n (kF c) (kas_place p k r l m) fun x => x ≤ k ∧ (∀ j, j < x → kV c p j ≤ kV c p k) ∧ ∀ j, x ≤ j → j < k → kV c p k < kV c p j
  | 0, l, m, h1, h2, h3, h4, h5 => .ret ⟨Nat.le_trans h1 h2, h4, fun j a b => h5 j (Nat.le_trans (Nat.le_of_sub_eq_zero (Nat.le_zero.mp h3)) a) b⟩
  | r + 1, l, m, h1, h2, h3, h4, h5 => by
    unfold kas_place
    by_cases e : l ≥ m
    · rw [if_pos e]
      exact .ret ⟨Nat.le_trans h1 h2, h4, fun j a b => h5 j (Nat.le_trans e a) b⟩
    · rw [if_neg e]
      obtain ⟨m1, m2, m3, m4, m5⟩ := mid_ix e h2 h3
      refine .ask (hp.lt hn _) (hp.lt hn _) ?_
      cases e2 : kF c (p.getD k 0) (p.getD ((l + m) / 2) 0) with
      | true =>
        rw [if_pos rfl]
        have hlt := kF_true e2
        exact kPlace hp hn hu r l ((l + m) / 2) m1 (Nat.le_of_lt m3) m4 h4 fun j a b => Nat.lt_of_lt_of_le hlt (up_le hu a b)
      | false =>
        rw [if_neg Bool.false_ne_true]
        have hge := kF_false e2
        exact kPlace hp hn hu r ((l + m) / 2 + 1) m m2 h2 m5 (fun j a => Nat.le_trans (up_le hu (Nat.le_of_lt_succ a) m3) hge) h5
theorem kBub {p : Array Nat} (hp : kPm n p) {k l : Nat} (hk : k < n) (hl : l ≤ k) (j : Nat) : kV c (bubble p k (k - l)) j = if j = l then kV c p k else if l < j ∧ j ≤ k then kV c p (j - 1) else kV c p j := by
  have z := getElem?_bubble (xs := p) (src := k) (by rw [hp.size]; exact hk) (k - l) (Nat.sub_le _ _) j
  rw [Nat.sub_sub_self hl] at z
  split at z
  · rw [if_pos (by assumption)]; exact kV_get z
  · rw [if_neg (by assumption)]
    split at z
    · rw [if_pos (by assumption)]; exact kV_get z
    · rw [if_neg (by assumption)]; exact kV_get z
theorem kIns {p : Array Nat} (hp : kPm n p) {k l : Nat} (hk : k < n) (hl : l ≤ k) (hu : kUp c p k) (a2 : ∀ j, j < l → kV c p j ≤ kV c p k) (a3 : ∀ j, l ≤ j → j < k → kV c p k < kV c p j) : kUp c (bubble p k (k - l)) (k + 1) := fun j hj => by
  have hjk : j < k := Nat.lt_of_succ_lt_succ hj
  have hb := kBub (c := c) hp hk hl
  rcases Nat.lt_trichotomy j l with h | h | h
  · rw [hb j, if_neg (Nat.ne_of_lt h), if_neg (fun q => absurd q.1 (Nat.not_lt.mpr (Nat.le_of_lt h))), hb (j + 1)]
    rcases Nat.lt_or_eq_of_le h with h' | h'
    · rw [if_neg (Nat.ne_of_lt h'), if_neg (fun q => absurd q.1 (Nat.not_lt.mpr (Nat.le_of_lt h')))]
      exact hu j (Nat.lt_of_lt_of_le h' hl)
    · rw [if_pos h']
      exact a2 j h
  · rw [hb j, if_pos h, hb (j + 1), if_neg (by rw [h]; exact Nat.succ_ne_self l), if_pos ⟨by rw [h]; exact Nat.lt_succ_self l, hjk⟩]
    exact Nat.le_of_lt (a3 j (Nat.le_of_eq h.symm) hjk)
  · rw [hb j, if_neg (Nat.ne_of_gt h), if_pos ⟨h, Nat.le_of_lt hjk⟩, hb (j + 1), if_neg (Nat.ne_of_gt (Nat.lt_succ_of_lt h)), if_pos ⟨Nat.lt_succ_of_lt h, hjk⟩]
    obtain ⟨i, rfl⟩ : ∃ i, j = i + 1 := ⟨j - 1, (Nat.sub_add_cancel (Nat.lt_of_le_of_lt (Nat.zero_le l) h)).symm⟩
    exact hu i hjk
theorem kBin (hn : 1 ≤ n) : ∀ (r : Nat) (p : Array Nat) (k : Nat), kPm n p → k + r = n → kUp c p k → KasOk n (kF c) (kas_bin r p k) fun x => kPm n x ∧ kUp c x n
  | 0, p, k, hp, hk, hu => .ret ⟨hp, by rw [← hk]; exact hu⟩
  | r + 1, p, k, hp, hk, hu => by
    have hkn : k < n := by rw [← hk]; exact Nat.lt_add_of_pos_right (Nat.zero_lt_succ r)
    refine KasOk.bind ?_
    refine (kPlace hp hn hu k 0 k (Nat.zero_le _) (Nat.le_refl _) (Nat.le_refl _) (fun j a => absurd a (Nat.not_lt_zero _)) (fun j a b => absurd b (Nat.not_lt.mpr a))).mono fun l ⟨a1, a2, a3⟩ => ?_
    exact kBin hn r _ (k + 1) ((bubble_perm p k _).trans hp) ((shf k r).trans hk) (kIns hp hkn a1 hu a2 a3)
theorem kSort (hn : 1 ≤ n) : KasOk n (kF c) (kas_sort n) fun x => kPm n x ∧ kUp c x n := by
  refine KasOk.bind ?_
  refine (kCount (c := c) (p := (List.range n).toArray) (Array.Perm.refl _) hn).mono fun x ⟨a1, a2, a3, a4⟩ => ?_
  by_cases e : x.1 < n
  · rw [if_pos e, Nat.max_eq_left a2]
    exact kBin hn (n - x.1) x.2 x.1 a1 (Nat.add_sub_cancel' a3) a4
  · rw [if_neg e]
    have e2 : x.1 = n := Nat.le_antisymm a3 (Nat.le_of_not_lt e)
    exact .ret ⟨a1, by rw [e2] at a4; exact a4⟩
end
end Mine
end
section
open PySem PySem.W PyProof.Rows PySem.W.X Mine
set_option Elab.async false
set_option maxRecDepth 100000
set_option maxHeartbeats 4000000
set_option linter.unusedVariables false
namespace Mine
section
variable {prog : Program} {w : World} {A : Around} {E : Value → Shared → Prop} {h : Heap} {g : Array GenState} {d : Drawn} {t : Nat} {os : OsState}
theorem k_keyLt {x y C f : Addr} {ox of oC oN : Obj} {c : ClassData} {Q : Bool → Shared → Prop} (hu : A.units < cLine)
    (hx : h.get? x = some ox) (hxc : ox.cls = .ref C) (hC : h.get? C = some oC) (hcd : oC.data = .cls c) (hm : c.mro = [.ref C, .type "object"]) (hN : h.get? c.ns = some oN) (e : nsLook "__lt__" oN = pure (some (.ref f))) (hf : h.get? f = some of) (hfc : of.cls = .type "function")
    (hcall : wpAny (model prog w) A (call (.ref f) [.ref x, .ref y]) (fun v s' => ∃ b, v = .bool b ∧ Q b s') E ⟨h, g, d, t, os⟩) : wpAny (model prog w) A (keyLt' oneType' (.ref x) (.ref y)) Q E ⟨h, g, d, t, os⟩ := by
  rw [keyLt'_oneType, oneLt'_eq]
  simp only [if_true]
  refine wpAny_bind (wpAny_cRoomFor hu ?_)
  refine wpAny_bind (k_specFn hx hxc hC hcd hm hN e hf hfc (wpAny_mono hcall (fun v s' hv => ?_) fun _ _ x => x))
  obtain ⟨b, rfl, hq⟩ := hv
  exact wpAny_bind (wpAny_truthy_bool (wpAny_pure hq))
end
noncomputable def ltSR (x y : Str × Nat) : Bool := ltC x.1 y.1
theorem sort_onS {w : World} {k : KP} {h₀ : Heap} (K : KOn w k h₀) (hfn : k.fn = 37) : SortOn w k.C valS ltSR 540 5400 h₀ := by
  refine ⟨fun {h g d t os x Q E} hk ht hq => key_new_s (x := x) K hk ht hq, fun {h g d t os x y i j Q E} hk ht hi hj hq => ?_⟩
  have K' := K.mono hk
  have ni := hi.notin K'
  have nj := hj.notin K'
  obtain ⟨li, dx, gi⟩ := hi
  obtain ⟨lj, dy, gj⟩ := hj
  have gf := K'.get 5 _ _ rfl rfl
  have gC := K'.get 0 k.C k.oC rfl rfl
  have gN := K'.get 1 k.N k.oN rfl rfl
  refine k_keyLt (by show 5400 < 9900; omega) gi rfl gC rfl rfl gN (by kernel_rfl) gf rfl ?_
  by_cases e : i = j
  · subst e
    have exy : x = y := by
      rw [gi] at gj
      simp only [insO, Option.some.injEq, Obj.mk.injEq, Array.mk.injEq, List.cons.injEq, Value.str.injEq, true_and, and_true] at gj
      exact Prod.ext gj.2.1 gj.2.2
    obtain ⟨a1, a2, a3, a4⟩ := K'.ask [(i, insO k.C (some dx) #[some (valS x)])] (fun p hp => by cases List.mem_singleton.mp hp; exact gi) (fun p hp => by cases List.mem_singleton.mp hp; exact ni) (by simp) (fun p hp => by cases List.mem_singleton.mp hp; exact li)
    refine wpAny_call ((ltS_spec_s w k (some dx) x.1 x.2 i hfn).go rfl (by show 540 ≤ 570; omega) (by show 5400 ≤ 5700; omega) K'.top K'.size ht a1 a2 (fun _ h => (nomatch h)) a3 a4 fun h' t' tv av ht' htv hav htk Af => ?_)
    refine ⟨_, rfl, ?_⟩
    rw [← exy] at hq
    exact hq h' t' (Af.kp a2 a1) ht'
  · obtain ⟨a1, a2, a3, a4⟩ := K'.ask [(i, insO k.C (some dx) #[some (valS x)]), (j, insO k.C (some dy) #[some (valS y)])] (fun p hp => by simp at hp; rcases hp with rfl | rfl <;> assumption) (fun p hp => by simp at hp; rcases hp with rfl | rfl <;> assumption) (by simp [e]) (fun p hp => by simp at hp; rcases hp with rfl | rfl <;> assumption)
    refine wpAny_call ((ltK_spec_s w k (some dx) (some dy) x.1 y.1 x.2 y.2 i j hfn).go rfl (by show 540 ≤ 570; omega) (by show 5400 ≤ 5700; omega) K'.top K'.size ht a1 a2 (fun _ h => (nomatch h)) a3 a4 fun h' t' tv av ht' htv hav htk Af => ?_)
    exact ⟨_, rfl, hq h' t' ⟨Af.size, fun b o e => Af.keep b o e (by simp [hkBool])⟩ ht'⟩
noncomputable def insN (a : Nat) : List Nat → List Nat
  | [] => [a]
  | b :: l => match Nat.ble a b with
    | true => a :: b :: l
    | false => b :: insN a l
noncomputable def srtN : List Nat → List Nat
  | [] => []
  | a :: l => insN a (srtN l)
theorem insN_perm (a : Nat) : ∀ l, (insN a l).Perm (a :: l)
  | [] => List.Perm.refl _
  | b :: l => by
    unfold insN
    split
    · exact List.Perm.refl _
    · exact ((insN_perm a l).cons b).trans (List.Perm.swap _ _ _)
theorem srtN_perm : ∀ l, (srtN l).Perm l
  | [] => List.Perm.refl _
  | a :: l => (insN_perm a _).trans ((srtN_perm l).cons a)
theorem insN_up (a : Nat) : ∀ l : List Nat, l.Pairwise (· ≤ ·) → (insN a l).Pairwise (· ≤ ·)
  | [], _ => List.pairwise_singleton _ _
  | b :: l, h => by
    have h' := List.pairwise_cons.mp h
    unfold insN
    split
    · rename_i e
      have hab := Nat.le_of_ble_eq_true e
      refine List.pairwise_cons.mpr ⟨fun x hx => ?_, h⟩
      rcases List.mem_cons.mp hx with rfl | hx
      · exact hab
      · exact Nat.le_trans hab (h'.1 x hx)
    · rename_i e
      have hab : b ≤ a := by
        have : ¬ a ≤ b := fun q => by rw [Nat.ble_eq_true_of_le q] at e; cases e
        omega
      refine List.pairwise_cons.mpr ⟨fun x hx => ?_, insN_up a l h'.2⟩
      rcases List.mem_cons.mp ((insN_perm a l).mem_iff.mp hx) with rfl | hx
      · exact hab
      · exact h'.1 x hx
theorem srtN_up : ∀ l : List Nat, (srtN l).Pairwise (· ≤ ·)
  | [] => List.Pairwise.nil
  | a :: l => insN_up a _ (srtN_up l)
theorem up_uniq {a b : List Nat} (hp : a.Perm b) (ha : a.Pairwise (· ≤ ·)) (hb : b.Pairwise (· ≤ ·)) : a = b := by
  first
    | exact hp.eq_of_pairwise (fun x y _ _ h1 h2 => Nat.le_antisymm h1 h2) ha hb
    | exact List.Perm.eq_of_pairwise (fun x y _ _ h1 h2 => Nat.le_antisymm h1 h2) ha hb hp
    | exact hp.eq_of_sorted (fun x y _ _ h1 h2 => Nat.le_antisymm h1 h2) ha hb
theorem srtN_eq {a b : List Nat} (hp : a.Perm b) : srtN a = srtN b := up_uniq ((srtN_perm a).trans (hp.trans (srtN_perm b).symm)) (srtN_up a) (srtN_up b)
theorem srtN_len (l : List Nat) : (srtN l).length = l.length := (srtN_perm l).length_eq
end Mine
end
section
open PySem PySem.W PyProof.Rows PySem.W.X Mine
set_option Elab.async false
set_option maxRecDepth 100000
set_option maxHeartbeats 4000000
set_option linter.unusedVariables false
namespace Mine
noncomputable abbrev one1 (p : Nat × Nat) : Str × Nat := (⟨#[p.1]⟩, p.2)
theorem ltC_one (a b : Nat) : ltC ⟨#[a]⟩ ⟨#[b]⟩ = decide (a < b) := by
  have e : ∀ a b : Nat, (([a] : List Nat) < [b]) = (a < b) := fun a b => by simp [List.cons_lt_cons_iff]
  have e2 : cmpS ⟨#[a]⟩ ⟨#[b]⟩ = (if b < a then 1 else 0) - (if a < b then 1 else 0) := by
    unfold cmpS
    simp only [e, Bool.cond_decide]
  unfold ltC
  rw [← Z.ltZ_eq, e2]
  congr 1
  split <;> split <;> simp <;> omega
theorem kas_congr {α : Type} {n : Nat} {f f' : Nat → Nat → Bool} (hf : ∀ i j, i < n → j < n → f i j = f' i j) : ∀ t : KasT α, kasGood n f t → kasGood n f' t ∧ kasRun f' t = kasRun f t
  | .ret a, _ => ⟨trivial, rfl⟩
  | .ask i j k, h => by
    have z := kas_congr hf (k (f i j)) h.2
    have e := hf i j h.1.1 h.1.2
    show (_ ∧ kasGood n f' (k (f' i j))) ∧ kasRun f' (k (f' i j)) = _
    rw [← e]
    exact ⟨⟨h.1, z.1⟩, z.2⟩
theorem sort_good (ps : List (Nat × Nat)) (h1 : 1 ≤ ps.length) : kasGood (ps.map one1).length (ansOf ltSR (ps.map one1)) (kas_sort (ps.map one1).length) ∧
    ∃ qs : List (Nat × Nat), sortOut valS ltSR (ps.map one1) = qs.map (fun q => valS (one1 q)) ∧ qs.map (·.1) = srtN (ps.map (·.1)) := by
  have hl : (ps.map one1).length = ps.length := List.length_map _
  have hf : ∀ i j, i < ps.length → j < ps.length → kF (fun i => (ps.getD i (0, 0)).1) i j = ansOf ltSR (ps.map one1) i j := fun i j hi hj => by
    unfold kF ansOf
    rw [List.getElem?_map, List.getElem?_map, List.getElem?_eq_getElem hi, List.getElem?_eq_getElem hj]
    show decide ((ps.getD i (0, 0)).1 < (ps.getD j (0, 0)).1) = ltC ⟨#[(ps[i]).1]⟩ ⟨#[(ps[j]).1]⟩
    rw [ltC_one, List.getD_eq_getElem?_getD, List.getD_eq_getElem?_getD, List.getElem?_eq_getElem hi, List.getElem?_eq_getElem hj]
    rfl
  obtain ⟨z1, z2⟩ := kSort (c := fun i => (ps.getD i (0, 0)).1) h1
  obtain ⟨y1, y2⟩ := kas_congr hf _ z1
  rw [hl]
  refine ⟨y1, ?_⟩
  unfold sortOut
  rw [hl, y2]
  generalize kasRun (kF fun i => (ps.getD i (0, 0)).1) (kas_sort ps.length) = p at z2
  obtain ⟨hp, hu⟩ := z2
  have hlt : ∀ i ∈ p.toList, i < ps.length := fun i hi => by
    have := hp.toList.mem_iff.mp hi
    simpa using this
  refine ⟨p.toList.map fun i => ps.getD i (0, 0), ?_, ?_⟩
  · rw [show (p.toList.map fun i => ps.getD i (0, 0)).map (fun q => valS (one1 q)) = p.toList.map fun i => valS (one1 (ps.getD i (0, 0))) from List.map_map]
    refine List.map_congr_left fun i hi => ?_
    have hi' := hlt i hi
    rw [List.getD_eq_getElem?_getD, List.map_map, List.getElem?_map, List.getElem?_eq_getElem hi']
    show valS (one1 ps[i]) = valS (one1 (ps.getD i (0, 0)))
    rw [List.getD_eq_getElem?_getD, List.getElem?_eq_getElem hi']
    rfl
  · rw [List.map_map]
    refine up_uniq ?_ ?_ (srtN_up _)
    · refine List.Perm.trans ?_ (srtN_perm _).symm
      have e1 : (p.toList.map fun i => (ps.getD i (0, 0)).1).Perm ((List.range ps.length).map fun i => (ps.getD i (0, 0)).1) := (show p.toList.Perm (List.range ps.length) by simpa using hp.toList).map _
      refine e1.trans (List.Perm.of_eq ?_)
      apply List.ext_getElem
      · simp
      · intro i h1 h2
        simp only [List.getElem_map, List.getElem_range]
        rw [List.getD_eq_getElem?_getD, List.getElem?_eq_getElem (by simpa using h2)]
        rfl
    · rw [List.pairwise_iff_getElem]
      intro i j hi hj hij
      have hi' : i < p.size := by simpa using hi
      have hj' : j < p.size := by simpa using hj
      have z := up_le hu (Nat.le_of_lt hij) (by rw [← hp.size]; exact hj')
      unfold kV at z
      rw [show p.getD i 0 = p[i] by simp [Array.getD, hi'], show p.getD j 0 = p[j] by simp [Array.getD, hj']] at z
      simpa using z
theorem any_good (ps : List (Nat × Nat)) : ∃ qs : List (Nat × Nat), sortAny valS ltSR (ps.map one1) = qs.map (fun q => valS (one1 q)) ∧ qs.map (·.1) = srtN (ps.map (·.1)) := by
  unfold sortAny
  rw [List.length_map]
  by_cases h : ps.length < 2
  · rw [if_pos h]
    refine ⟨ps, List.map_map, ?_⟩
    match ps, h with
    | [], _ => rfl
    | [a], _ => rfl
    | a :: b :: l, q => exact absurd q (Nat.not_lt.mpr (Nat.le_add_left 2 _))
  · rw [if_neg h]
    exact (sort_good ps (Nat.le_trans (by decide) (Nat.le_of_not_lt h))).2
noncomputable def srtV (l : List Nat) (B n : Nat) : List Value := zipS (srtN l) ((decT B n l.length).map (· - 1))
theorem zipS_map : ∀ qs : List (Nat × Nat), zipS (qs.map (·.1)) (qs.map (·.2)) = qs.map fun q => valS (one1 q)
  | [] => rfl
  | q :: qs => by
    rw [List.map_cons, List.map_cons, List.map_cons, zipS_cons, zipS_map qs]
theorem srtV_code (cs : List Nat) (qs : List (Nat × Nat)) (h : qs.map (·.1) = srtN cs) : ∃ B n, 1 ≤ B ∧ 1 ≤ n ∧ srtV cs B n = qs.map fun q => valS (one1 q) := by
  obtain ⟨B, n, hB, hn, e⟩ := enc_toks (qs.map fun q => q.2 + 1) (fun a ha => by
    obtain ⟨b, _, rfl⟩ := List.mem_map.mp ha
    exact Nat.le_add_left ..)
  rw [List.length_map] at e
  have hl : qs.length = cs.length := by
    have := congrArg List.length h
    rw [List.length_map, srtN_len] at this
    exact this
  refine ⟨B, n, hB, hn, ?_⟩
  unfold srtV
  rw [← hl, e, ← h, List.map_map]
  exact zipS_map qs
noncomputable def hkSd (x : Str) : Hk := { nt := 3, nn := 1, res := fun _ av => .ok (.ret (.ref (av.getD 0 0))), news := fun tv _ => [liS (srtV x.cps.toList (tv.getD 0 0) (tv.getD 1 0)) (tv.getD 2 0 - 1)], upd := fun _ _ => [] }
theorem items_signs {x : Str} {acc : Array Value} (h : ItemsOf (SignAt x) acc x.cps.size) : ∃ ps : List (Nat × Nat), acc.toList = (ps.map one1).map valS ∧ ps.map (·.1) = x.cps.toList := by
  obtain ⟨hs, hi⟩ := h
  refine ⟨acc.toList.mapIdx fun i v => (x.cps.getD i 0, tokOf v), ?_, ?_⟩
  · apply List.ext_getElem
    · simp
    · intro i h1 h2
      have h1' : i < acc.size := by simpa using h1
      obtain ⟨c, u, e1, e2⟩ := hi i acc[i] (Array.getElem?_eq_getElem h1')
      have e3 : x.cps.getD i 0 = c := by rw [Array.getD_eq_getD_getElem?, e1]; rfl
      simp only [List.getElem_map, List.getElem_mapIdx, Array.getElem_toList]
      rw [e3, e2]
      rfl
  · apply List.ext_getElem
    · simp [hs]
    · intro i h1 h2
      have h2' : i < x.cps.size := by simpa using h2
      simp only [List.getElem_map, List.getElem_mapIdx, Array.getElem_toList]
      rw [Array.getD_eq_getD_getElem?, Array.getElem?_eq_getElem h2']
      rfl
theorem sd_spec (w : World) (k : KP) (hfn : k.fn = 37) (x : Str) (tx : Nat) (hx : x.cps.toList.length < 64) :
    SpecC pr w (ktA w) 111 1 525 5250 (.builtin "sorted" ⟨[.str x tx], [(Str.ofString "key", .ref k.C)]⟩) k.as (k.os w) (hkSd x) := by
  intro A h g d t os h1 h2 h3 hT hn ht hg hl he hnd hf
  refine code_An (d := 525) (u := 5250) h1 h2 h3 ?_
  have K : KOn w k h := ⟨hg, hnd, hf, hT, hn⟩
  refine codeAny_builtin entry_sorted ?_
  rw [Around.under_plainId plain_sorted _]
  show wpAny _ _ (Builtin.«sorted» ⟨[.str x tx], [(Str.ofString "key", .ref k.C)]⟩) _ _ _
  unfold Builtin.«sorted»
  refine wpAny_bind (m := checkCount "sorted" 1 1 _) (wpAny_pure ?_)
  have hx' : x.cps.size < 64 := by simpa using hx
  refine wpAny_bind (wpAny_mono (wpAny_grow (wpAny_collect_str (Q := fun l s' => (∀ b o, h.get? b = some o → s'.heap.get? b = some o) ∧ s'.gens = g ∧ s'.drawn = d ∧ s'.os = os ∧ ∃ ps : List (Nat × Nat), l = (ps.map one1).map valS ∧ ps.map (·.1) = x.cps.toList) rfl x tx (fun s' acc hk hgn hdr hos hacc => ⟨hk, hgn, hdr, hos, items_signs hacc⟩) (by rw [sizeLine_eq]; omega))) ?_ fun _ _ q => q)
  rintro l ⟨h1, g1, d1, t1, os1⟩ ⟨⟨hk, rfl, rfl, rfl, ps, rfl, hps⟩, G, ht1⟩
  have hlen : ps.length = x.cps.toList.length := by rw [← hps, List.length_map]
  dsimp only at hk G ht1 ⊢
  have K1 : Kp h h1 := ⟨G.size, hk⟩
  refine wpAny_bind (wpAny_newList ?_ (by rw [List.length_map, List.length_map, hlen, sizeLine_eq]; omega))
  have k2 : Kp h1 (h1.push (seqObj "list" ((ps.map one1).map valS).toArray 0)) := ⟨by rw [size_push']; exact Nat.le_succ _, fun b o eb => Heap.get?_push_of_some _ eb⟩
  have ga : (h1.push (seqObj "list" ((ps.map one1).map valS).toArray 0)).get? h1.objs.size = some (liS ((ps.map one1).map valS) 0) := Heap.get?_push_size _ rfl
  show wpAny _ _ _ _ _ ⟨h1.push (seqObj "list" ((ps.map one1).map valS).toArray 0), g1, d1, t1, os1⟩
  generalize h1.push (seqObj "list" ((ps.map one1).map valS).toArray 0) = h2 at k2 ga ⊢
  have ht1' : 1 ≤ t1 := Nat.le_trans ht ht1
  have Sb : ∀ h₁ : Heap, (∀ b o, h2.get? b = some o → b ≠ h1.objs.size → h₁.get? b = some o) → h2.objs.size ≤ h₁.objs.size → SortOn w k.C valS ltSR 540 5400 h₁ := fun h₁ kp sz => by
    refine sort_onS (K.mono ⟨Nat.le_trans K1.size (Nat.le_trans k2.size sz), fun b o eb => kp b o (k2.keep _ _ (K1.keep _ _ eb)) (Nat.ne_of_lt (Nat.lt_of_lt_of_le (Heap.lt_size eb) K1.size))⟩) hfn
  have fin : ∀ (h3 : Heap) (t3 e3 : Nat) (qs : List (Nat × Nat)), 1 ≤ t3 → h2.objs.size ≤ h3.objs.size → (∀ b o, h2.get? b = some o → b ≠ h1.objs.size → h3.get? b = some o) → h3.get? h1.objs.size = some (liS (qs.map fun q => valS (one1 q)) e3) → qs.map (·.1) = srtN x.cps.toList →
      PostC (hkSd x) k.as h g1 d1 os1 (.ok (.ret (.ref h1.objs.size))) ⟨h3, g1, d1, t3, os1⟩ := fun h3 t3 e3 qs q1 q2 q3 q4 q5 => by
    obtain ⟨B, n, hB, hn1, e⟩ := srtV_code x.cps.toList qs q5
    refine ⟨h3, t3, [B, n, e3 + 1], [h1.objs.size], rfl, q1, rfl, rfl, geC hB (geC hn1 (geC (geS _) geN)), rfl, ?_⟩
    · have sz := K1.size
      refine ⟨Nat.le_trans sz (Nat.le_trans k2.size q2), fun b o eb _ => q3 b o (k2.keep _ _ (K1.keep _ _ eb)) (Nat.ne_of_lt (Nat.lt_of_lt_of_le (Heap.lt_size eb) sz)), fun i a x e1 e2 => ?_, fun i a o e1 e2 => ?_, by simp, fun y hy => ?_⟩
      · simp [hkSd] at e2
      · match i with
        | 0 =>
          simp [hkSd] at e1 e2
          subst e1 e2
          refine ⟨sz, Heap.lt_size q4, ?_⟩
          rw [e]
          exact q4
        | i + 1 => simp at e1
      · rw [List.mem_singleton] at hy
        subst hy
        exact sz
  have args := ksk_l1 (.ref h1.objs.size) (.ref k.C)
  refine wpAny_bind (wpAny_holding (wpAny_call_entry_kw (rest := []) slot_list_sort ⟨_, ga, rfl⟩ entry_list_sort ?_ args))
  refine wpAny_mono (sort_run (xs := ps.map one1) (val := valS) (R := ltSR) rfl (Nat.le_of_ble_eq_true (by kernel_rfl)) (Nat.le_of_ble_eq_true (by kernel_rfl)) Sb ga (by rw [List.length_map, hlen]; exact hx) ht1' (fun q => (sort_good ps (Nat.le_trans (by decide) ((List.length_map one1) ▸ q))).1)) ?_ fun _ _ q => q
  rintro fin' s' ⟨rfl, h3, t3, e3, rfl, q1, q2, q3, q4⟩
  refine ⟨_, rfl, wpAny_pure ?_⟩
  obtain ⟨qs, z2, z3⟩ := any_good ps
  rw [z2] at q4
  rw [hps] at z3
  exact fin h3 t3 e3 qs q1 q2 q3 q4 z3
end Mine
end
section
open PySem PySem.W PyProof.Rows PySem.W.X Mine
set_option Elab.async false
set_option maxRecDepth 100000
set_option maxHeartbeats 4000000
set_option linter.unusedVariables false
namespace Mine
noncomputable def gref0G (a : Args) : GH := { needs := [refA (pA a 0)], code := fun _ => .builtin "" ⟨[.ref (refA (pA a 0)), .int 0 (tokOf (pA a 1))], []⟩, props := fun o => [(sqAt (oAt o 0))[0]? = some (.ref (refA ((sqAt (oAt o 0)).getD 0 .none)))], objs := fun o => [liS (sqAt (oAt o 0)) (epAt (oAt o 0))], hk := fun o => strictL (oAt o 0) fun vs _ => strictR (vs.getD 0 .none) fun b => hkV (.ref b) }
noncomputable def gref0Hook : Code → Option Hr := bHook 128106587276438692081757506308484131437 refInt gref0G
theorem gref0_hook (w : World) : HookS pr w (ktA w) 111 1 800 8000 gref0Hook := by
  refine bHook_n (name := "list.__getitem__") (by decide +kernel) 1 (fun _ _ => rfl) fun a f hp => ?_
  have h1 := hp _ (.head _)
  have eh : (gref0G a).hk ((List.range 1).map f) = hkV (.ref (refA ((sqAt (f 0)).getD 0 .none))) := (strictL_eq (f 0) (fun vs _ => strictR (vs.getD 0 .none) fun b => hkV (.ref b))).trans (strictR_eq _ _)
  show SpecC _ _ _ _ _ _ _ _ _ _ { (gref0G a).hk ((List.range 1).map f) with eqs := [] }
  rw [eh]
  exact item_spec w _ _ _ _ _ _ (Int.le_refl _) (by decide) h1
noncomputable def strKw (a : Args) : Bool := match a.kw with
  | [] => false
  | _ => match Nat.beq a.pos.length 1 with
    | true => isStr (pA a 0)
    | false => false
noncomputable def sdG' (w : World) (C : Addr) (x : Str) (tx : Nat) : GH :=
  { needs := [C], more := kSt, code := fun l => .builtin "" ⟨[.str x tx], [(Str.ofString "key", .ref C)]⟩, props := fun _ => [x.cps.toList.length < 64], objs := fun l => ({ kGet C l with fn := 37 } : KP).os w, hk := fun l => hkSd x }
noncomputable def sdG (w : World) (a : Args) : GH := strictS (pA a 0) fun x tx => sdG' w (refA (kA a 0)) x tx
noncomputable def sdHook (w : World) : Code → Option Hr := bHook 111490731569268 strKw (sdG w)
theorem sd_hook (w : World) : HookS pr w (ktA w) 111 1 525 5250 (sdHook w) := by
  unfold sdHook
  rw [show sdG w = fun a => sdG' w (refA (kA a 0)) (strOf (pA a 0)) (tokOf (pA a 0)) from funext fun a => strictS_eq _ _]
  exact bHook_n (name := "sorted") (by decide +kernel) 10 (fun _ _ => rfl) fun a f hp => sd_spec w { kGet (refA (kA a 0)) ((List.range 10).map f) with fn := 37 } rfl (strOf (pA a 0)) (tokOf (pA a 0)) (hp _ (.head _))
noncomputable def v9Hook (w : World) : Code → Option Hr := orHook gref0Hook (orHook (ctkHook2 w) (orHook sliceHook (orHook saddHook (sdHook w))))
theorem v9_hook (w : World) : HookS pr w (ktA w) 111 1 430 4300 (v9Hook w) := ((gref0_hook w).le (by decide) (by decide)).or (((ctk_hook2 w).le (by decide) (by decide)).or (((slice_hook w).le (by decide) (by decide)).or (((sadd_hook w).le (by decide) (by decide)).or ((sd_hook w).le (by decide) (by decide)))))
noncomputable def lgV9 (w : World) (sc Z L K a cm : Addr) (k0 k1 k2 k3 k4 : Nat) (X : Str) (tX : Nat) (E : Str) (tE : Nat) (rs : List Value) (e : Nat) (i dd md : Int) (ti td tm : Nat) : List (Addr × Obj) := [(L, lwF3 w sc Z K k0 k1 k2 k3 k4 X tX E tE), (cm, celI md tm), (K, liS (.ref a :: rs) e), (a, tup2 i dd ti td), (16, tabA w)]
end Mine
end
section
open PySem PySem.W PyProof.Rows PySem.W.X Mine
set_option Elab.async false
set_option maxRecDepth 100000
set_option maxHeartbeats 4000000
set_option linter.unusedVariables false
namespace Mine
section
variable (w : World) (sc Z L K a ci cm ch cc : Addr) (k0 k1 k2 k3 k4 : Nat) (X : Str) (tX : Nat) (E : Str) (tE : Nat) (rs : List Value) (e : Nat) (i dd md : Int) (ti td tm : Nat) (h : Heap) (g : Array GenState) (d : Drawn) (os : OsState)
noncomputable def orcV9 (b1 b2 b3 : Bool) : List Nat := orcG w (trA w 9 3 1000002 1000003 1000004 1000005 1000006) encF (v9Hook w) (lgV9 w sc Z 1000002 1000008 1000009 1000004 k0 k1 k2 k3 k4 X tX E tE rs e i dd md ti td tm) 410 4100 430 4300 g d os b1 b2 b3
noncomputable def rnV9 : RanT := ranT pr w 111 1 (ktA w) (lgV9 w sc Z L K a cm k0 k1 k2 k3 k4 X tX E tE rs e i dd md ti td tm) 410 4100 430 4300 h g d os (v9Hook w) NoE encF (trA w 9 3 L ci cm ch cc) 20000 (orcV9 w sc Z k0 k1 k2 k3 k4 X tX E tE rs e i dd md ti td tm g d os)
noncomputable def oV9 (ad tk : Nat → Nat) (j : Nat) : Obj := refG w (trA w 9 3 L ci cm ch cc) encF (v9Hook w) (lgV9 w sc Z L K a cm k0 k1 k2 k3 k4 X tX E tE rs e i dd md ti td tm) 410 4100 430 4300 (orcV9 w 1 2 k0 k1 k2 k3 k4 X tX E tE rs e i dd md ti td tm #[] {} {} true true true) ad tk j
end
noncomputable abbrev lwF9 (w : World) (sc Z K C O : Addr) (k0 k1 k2 k3 k4 : Nat) (X : Str) (tX : Nat) (E : Str) (tE : Nat) (i dd : Int) (ti td k5 k6 k7 k8 : Nat) : Obj := { cls := .type "frame", data := .dict #[rEnt w "script" k0 (.ref sc), rEnt w "numbers" k1 (.ref Z), rEnt w "shown" k2 (.str X tX), rEnt w "beads" k3 (.str E tE), rEnt w "cuts" k4 (.ref K), rEnt w "first" k5 (.int i ti), rEnt w "size" k6 (.int dd td), rEnt w "key" k7 (.ref C), rEnt w "one" k8 (.ref O)] 9 }
noncomputable def cut24 (E : Str) (i dd md : Int) (t0 t1 t2 : Nat) : Str := slCut E (some (i, t0)) (some (i + dd, t1)) ++ slCut E (some (md + dd, t2)) none
noncomputable abbrev growO (o : Obj) (m : List Value) : Obj := { o with data := .fields ⟨fiDrop o 0 ++ m⟩ }
noncomputable def is9 : List Nat := [4, 0, 1, 67, 68, 24, 23, 66, 32, 31, 9, 40, 39, 71]
noncomputable def kp9 (w : World) (ad tk : Nat → Nat) : KP := kpD w (ad 8) (ad 9) 37 ((List.range 76).map fun i => tk (i + 3)) ((List.range 59).map fun i => ad (10 + i))
noncomputable def ob9 (w : World) (sc Z L K a ci cm ch cc : Addr) (k0 k1 k2 k3 k4 : Nat) (X : Str) (tX : Nat) (E : Str) (tE : Nat) (rs : List Value) (e : Nat) (i dd md : Int) (ti td tm : Nat) (ad tk : Nat → Nat) : List Obj :=
  [growO (tabA w) (fiDrop (oV9 w sc Z L K a ci cm ch cc k0 k1 k2 k3 k4 X tX E tE rs e i dd md ti td tm ad tk 4) (fiDrop (tabA w) 0).length), lwF9 w sc Z K (ad 67) (ad 71) k0 k1 k2 k3 k4 X tX E tE i dd ti td (tk 1) (tk 2) (tk 80) (tk 89), celI md tm] ++ (kp9 w ad tk).os w ++ [liS (srtV (cut24 E i dd md ti (tk 81) (tk 83)).cps.toList (tk 86) (tk 87)) (tk 88 - 1)]
noncomputable def facts9 (E : Str) (tE : Nat) (a : Addr) (rs : List Value) (i dd md : Int) (ti : Nat) (tk : Nat → Nat) : List Prop :=
  [(cut24 E i dd md ti (tk 81) (tk 83)).cps.toList.length < 64, (slCut E (some (i, ti)) (some (i + dd, tk 81))).length + (slCut E (some (md + dd, tk 83)) none).length ≤ 1000, 1 ≤ tk 84, 1 ≤ tk 82, SlOk E tE (some (md + dd, tk 83)) none, SlOk E tE (some (i, ti)) (some (i + dd, tk 81)), (Value.ref a :: rs)[0]? = some (.ref a)]
section
variable {w : World} {sc Z L K a ci cm ch cc : Addr} {k0 k1 k2 k3 k4 : Nat} {X : Str} {tX : Nat} {E : Str} {tE : Nat} {rs : List Value} {e : Nat} {i dd md : Int} {ti td tm : Nat} {h : Heap} {g : Array GenState} {d : Drawn} {os : OsState}
theorem ck9 : ∀ b1 b2 b3, tellG1 (rnV9 w sc Z L K a ci cm ch cc k0 k1 k2 k3 k4 X tX E tE rs e i dd md ti td tm h g d os) is9 b1 b2 b3 = tellG2 (rnV9 w sc Z L K a ci cm ch cc k0 k1 k2 k3 k4 X tX E tE rs e i dd md ti td tm h g d os) 111 1 encF (fun _ tk => facts9 E tE a rs i dd md ti tk) (fun _ _ => .next) (ob9 w sc Z L K a ci cm ch cc k0 k1 k2 k3 k4 X tX E tE rs e i dd md ti td tm) b1 b2 b3 := orc13 (by kernel_rfl)
noncomputable def lg9 (w : World) (k : KP) (sc Z L K cm O : Addr) (k0 k1 k2 k3 k4 k5 k6 k7 k8 : Nat) (X : Str) (tX : Nat) (E : Str) (tE : Nat) (i dd md : Int) (ti td tm : Nat) (m : List Value) (vs : List Value) (eo : Nat) : List (Addr × Obj) :=
  [(16, growO (tabA w) m), (L, lwF9 w sc Z K k.C O k0 k1 k2 k3 k4 X tX E tE i dd ti td k5 k6 k7 k8), (cm, celI md tm)] ++ k.as.zip (k.os w) ++ [(O, liS vs eo)]
theorem s9_all {xs : List Addr} {h₀ : Heap} {t : Nat} {Q : Flow → Shared → Prop} (hF : ∀ tk : Nat → Nat, (∀ i, 1 ≤ tk i) → ∀ P ∈ facts9 E tE a rs i dd md ti tk, P)
    (D : Lg xs h₀ h (lgV9 w sc Z L K a cm k0 k1 k2 k3 k4 X tX E tE rs e i dd md ti td tm)) (hT : TopOf (ktA w) h) (hn : 111 ≤ h₀.objs.size) (hx : ∀ a ∈ xs, (ktA w).get a = none) (ht : 1 ≤ t)
    (hq : ∀ h' t' (k : KP) O k5 k6 k7 k8 m t1 t2 B n eo, k.fn = 37 → Lg xs h₀ h' (lg9 w k sc Z L K cm O k0 k1 k2 k3 k4 k5 k6 k7 k8 X tX E tE i dd md ti td tm m (srtV (cut24 E i dd md ti t1 t2).cps.toList B n) eo) → TopOf (ktA w) h' → 1 ≤ t' → Q .next ⟨h', g, d, t', os⟩) :
    wpAny (model pr w) (An 410 4100) (execs (((lwBody w).drop 9).take 3) (lwE w L ci cm ch cc)) Q NoE ⟨h, g, d, t, os⟩ := by
  refine tw_execs ?_
  refine led_goH encF 20000 (orcV9 w sc Z k0 k1 k2 k3 k4 X tX E tE rs e i dd md ti td tm g d os) is9 (fun _ tk => facts9 E tE a rs i dd md ti tk) (fun _ tk hk => hF tk hk) (fun _ _ => .next) (ob9 w sc Z L K a ci cm ch cc k0 k1 k2 k3 k4 X tX E tE rs e i dd md ti td tm) D hT hn (ktA_bound w) hx ht encF_inj (v9_hook w) (by kernel_rfl) (by decide) ck9 fun h' t' ad tk had htk D' hT' ht' => ?_
  exact hq h' t' (kp9 w ad tk) (ad 71) (tk 1) (tk 2) (tk 80) (tk 89) _ (tk 81) (tk 83) (tk 86) (tk 87) (tk 88 - 1) rfl D' hT' ht'
end
end Mine
end
section
open PySem PySem.W PyProof.Rows PySem.W.X Mine
set_option Elab.async false
set_option maxRecDepth 100000
set_option maxHeartbeats 4000000
set_option linter.unusedVariables false
namespace Mine
noncomputable def sEnd (w : World) : Stmt := (lwBody w).getD 12 default
theorem sEnd_eq (w : World) : sEnd w = .Return (some (.Compare (cmL (rEx (sEnd w))) [.Eq] [cmR (rEx (sEnd w))] (cP (rEx (sEnd w))))) (rPs (sEnd w)) := by kernel_rfl
noncomputable def lgW (w : World) (k : KP) (sc Z L K cm O : Addr) (k0 k1 k2 k3 k4 k5 k6 k7 k8 : Nat) (X : Str) (tX : Nat) (E : Str) (tE : Nat) (i dd md : Int) (ti td tm : Nat) : List (Addr × Obj) :=
  [(L, lwF9 w sc Z K k.C O k0 k1 k2 k3 k4 X tX E tE i dd ti td k5 k6 k7 k8), (cm, celI md tm)] ++ k.as.zip (k.os w)
noncomputable def kLit (k : KP) : KP := { k with C := 1000011, N := 1000012, f0 := 1000013, c0 := 1000014, md := 1000015, f1 := 1000016, c1 := 1000017, cell := 1000018, f2 := 1000019, c2 := 1000020 }
section
variable (w : World) (k : KP) (sc Z L K O ci cm ch cc : Addr) (k0 k1 k2 k3 k4 k5 k6 k7 k8 : Nat) (X : Str) (tX : Nat) (E : Str) (tE : Nat) (i dd md : Int) (ti td tm : Nat) (h : Heap) (g : Array GenState) (d : Drawn) (os : OsState)
noncomputable def trW (L ci cm ch cc : Addr) : Sem Value := PySem.W.ZFast.zw14044960220447912780 (cmR (rEx (sEnd w))) (lwE w L ci cm ch cc)
noncomputable def orcW (b1 b2 b3 : Bool) : List Nat := orcG w (trW w 1000002 1000003 1000004 1000005 1000006) encV (v9Hook w) (lgW w (kLit k) sc Z 1000002 K 1000004 O k0 k1 k2 k3 k4 k5 k6 k7 k8 X tX E tE i dd md ti td tm) 410 4100 430 4300 g d os b1 b2 b3
noncomputable def rnW : RanT := ranT pr w 111 1 (ktA w) (lgW w k sc Z L K cm O k0 k1 k2 k3 k4 k5 k6 k7 k8 X tX E tE i dd md ti td tm) 410 4100 430 4300 h g d os (v9Hook w) NoE encV (trW w L ci cm ch cc) 20000 (orcW w k sc Z K O k0 k1 k2 k3 k4 k5 k6 k7 k8 X tX E tE i dd md ti td tm g d os)
end
noncomputable def cut13 (E : Str) (i dd md : Int) (t0 t1 t2 : Nat) : Str := slCut E none (some (i, t0)) ++ slCut E (some (i + dd, t1)) (some (md + dd, t2))
noncomputable def isW : List Nat := [0, 1, 2, 3, 4, 5, 6, 7, 8, 9, 10, 11, 14]
noncomputable def obW (w : World) (k : KP) (sc Z K O : Addr) (k0 k1 k2 k3 k4 k5 k6 k7 k8 : Nat) (X : Str) (tX : Nat) (E : Str) (tE : Nat) (i dd md : Int) (ti td tm : Nat) (ad tk : Nat → Nat) : List Obj :=
  [lwF9 w sc Z K k.C O k0 k1 k2 k3 k4 X tX E tE i dd ti td k5 k6 k7 k8, celI md tm] ++ k.os w ++ [liS (srtV (cut13 E i dd md ti (tk 1) (tk 2)).cps.toList (tk 5) (tk 6)) (tk 7 - 1)]
noncomputable def factsW (E : Str) (tE : Nat) (i dd md : Int) (ti : Nat) (tk : Nat → Nat) : List Prop :=
  [(cut13 E i dd md ti (tk 1) (tk 2)).cps.toList.length < 64, (slCut E none (some (i, ti))).length + (slCut E (some (i + dd, tk 1)) (some (md + dd, tk 2))).length ≤ 1000, 1 ≤ tk 3, 1 ≤ tk 0, SlOk E tE (some (i + dd, tk 1)) (some (md + dd, tk 2)), SlOk E tE none (some (i, ti))]
section
variable {w : World} {k : KP} {sc Z L K O ci cm ch cc : Addr} {k0 k1 k2 k3 k4 k5 k6 k7 k8 : Nat} {X : Str} {tX : Nat} {E : Str} {tE : Nat} {i dd md : Int} {ti td tm : Nat} {h : Heap} {g : Array GenState} {d : Drawn} {os : OsState}
theorem ckW (hk : k.fn = 37) : ∀ b1 b2 b3, tellG1 (rnW w k sc Z L K O ci cm ch cc k0 k1 k2 k3 k4 k5 k6 k7 k8 X tX E tE i dd md ti td tm h g d os) isW b1 b2 b3 = tellG2 (rnW w k sc Z L K O ci cm ch cc k0 k1 k2 k3 k4 k5 k6 k7 k8 X tX E tE i dd md ti td tm h g d os) 111 1 encV (fun _ tk => factsW E tE i dd md ti tk) (fun ad _ => .ref (ad 14)) (obW w k sc Z K O k0 k1 k2 k3 k4 k5 k6 k7 k8 X tX E tE i dd md ti td tm) b1 b2 b3 := by
  cases k
  cases hk
  exact orc13 (by kernel_rfl)
theorem evW {xs : List Addr} {h₀ : Heap} {t : Nat} {Q : Value → Shared → Prop} {M : List (Addr × Obj)} (hk : k.fn = 37) (hF : ∀ tk : Nat → Nat, (∀ i, 1 ≤ tk i) → ∀ P ∈ factsW E tE i dd md ti tk, P)
    (D : Lg xs h₀ h (lgW w k sc Z L K cm O k0 k1 k2 k3 k4 k5 k6 k7 k8 X tX E tE i dd md ti td tm ++ M)) (hT : TopOf (ktA w) h) (hn : 111 ≤ h₀.objs.size) (hx : ∀ a ∈ xs, (ktA w).get a = none) (ht : 1 ≤ t)
    (hq : ∀ h' t' O2 t1 t2 B n eo, Lg xs h₀ h' (lgW w k sc Z L K cm O k0 k1 k2 k3 k4 k5 k6 k7 k8 X tX E tE i dd md ti td tm ++ ((O2, liS (srtV (cut13 E i dd md ti t1 t2).cps.toList B n) eo) :: M)) → TopOf (ktA w) h' → 1 ≤ t' → Q (.ref O2) ⟨h', g, d, t', os⟩) :
    wpAny (model pr w) (An 410 4100) (eval (cmR (rEx (sEnd w))) (lwE w L ci cm ch cc)) Q NoE ⟨h, g, d, t, os⟩ := by
  refine tw_eval ?_
  refine led_goH encV 20000 (orcW w k sc Z K O k0 k1 k2 k3 k4 k5 k6 k7 k8 X tX E tE i dd md ti td tm g d os) isW (fun _ tk => factsW E tE i dd md ti tk) (fun _ tk hk => hF tk hk) (fun ad _ => .ref (ad 14)) (obW w k sc Z K O k0 k1 k2 k3 k4 k5 k6 k7 k8 X tX E tE i dd md ti td tm) D.base hT (Nat.le_trans hn D.size) (ktA_bound w) (D.outs hn hx) ht encV_inj (v9_hook w) (by kernel_rfl) (by decide) (ckW hk) fun h' t' ad tk had htk D' hT' ht' => ?_
  refine hq h' t' (ad 14) (tk 1) (tk 2) (tk 5) (tk 6) (tk 7 - 1) ?_ hT' ht'
  exact D.frame D'
theorem evWL {xs : List Addr} {h₀ : Heap} {t : Nat} {Q : Value → Shared → Prop} {M : List (Addr × Obj)} {C : Addr}
    (D : Lg xs h₀ h ([(L, lwF9 w sc Z K C O k0 k1 k2 k3 k4 X tX E tE i dd ti td k5 k6 k7 k8)] ++ M)) (hT : TopOf (ktA w) h) (hn : 111 ≤ h₀.objs.size) (hx : ∀ a ∈ xs, (ktA w).get a = none) (ht : 1 ≤ t)
    (hq : ∀ h' t', Lg xs h₀ h' ([(L, lwF9 w sc Z K C O k0 k1 k2 k3 k4 X tX E tE i dd ti td k5 k6 k7 k8)] ++ M) → TopOf (ktA w) h' → 1 ≤ t' → Q (.ref O) ⟨h', g, d, t', os⟩) :
    wpAny (model pr w) (An 410 4100) (eval (cmL (rEx (sEnd w))) (lwE w L ci cm ch cc)) Q NoE ⟨h, g, d, t, os⟩ := by
  refine tw_eval ?_
  refine led_goG encV 20000 (fun b1 b2 b3 => orcG w (PySem.W.ZFast.zw14044960220447912780 (cmL (rEx (sEnd w))) (lwE w 1000002 1000003 1000004 1000005 1000006)) encV (fun _ => none) [(1000002, lwF9 w sc Z K C O k0 k1 k2 k3 k4 X tX E tE i dd ti td k5 k6 k7 k8)] 410 4100 430 4300 g d os b1 b2 b3) [0] (fun _ _ => []) (fun _ _ _ h => nomatch h) (fun _ _ => .ref O)
    (fun _ _ => [lwF9 w sc Z K C O k0 k1 k2 k3 k4 X tX E tE i dd ti td k5 k6 k7 k8]) D.base hT (Nat.le_trans hn D.size) (ktA_bound w) (D.outs hn hx) ht encV_inj (HookS.none (dm := 430) (um := 4300)) (by kernel_rfl) (by decide +kernel) (orc13 (by kernel_rfl)) fun h' t' ad tk had htk D' hT' ht' => ?_
  exact hq h' t' (D.frame D') hT' ht'
end
end Mine
end
section
open PySem PySem.W PyProof.Rows PySem.W.X Mine
set_option Elab.async false
set_option maxRecDepth 100000
set_option maxHeartbeats 4000000
set_option linter.unusedVariables false
namespace Mine
theorem zipS_len : ∀ (cs ts : List Nat), cs.length = ts.length → (zipS cs ts).length = cs.length
  | [], _, _ => rfl
  | c :: cs, [], h => nomatch h
  | c :: cs, t :: ts, h => by
    rw [zipS_cons, List.length_cons, List.length_cons, zipS_len cs ts (Nat.succ.inj h)]
theorem zipS_get : ∀ (cs ts : List Nat) (j : Nat) (v : Value), (zipS cs ts)[j]? = some v → ∃ c u, cs[j]? = some c ∧ v = .str ⟨#[c]⟩ u
  | [], _, j, v, h => by
    have e : zipS [] ‹List Nat› = [] := rfl
    rw [e] at h
    simp at h
  | c :: cs, [], j, v, h => by
    have e : zipS (c :: cs) [] = [] := rfl
    rw [e] at h
    simp at h
  | c :: cs, t :: ts, 0, v, h => by
    rw [zipS_cons] at h
    simp at h
    exact ⟨c, t, rfl, h.symm⟩
  | c :: cs, t :: ts, j + 1, v, h => by
    rw [zipS_cons] at h
    simp at h
    simpa using zipS_get cs ts j v h
theorem srtV_len (l : List Nat) (B n : Nat) : (srtV l B n).length = l.length := by
  unfold srtV
  rw [zipS_len _ _ (by rw [srtN_len, List.length_map, decT_len]), srtN_len]
theorem srtV_eqv {a b : List Nat} (h : srtN a = srtN b) (B n B' n' : Nat) : ∀ (j : Nat) (u v : Value), (srtV a B n)[j]? = some u → (srtV b B' n')[j]? = some v → MeetsSeq.EqGives u v true := fun j u v hu hv => by
  obtain ⟨c, t, e1, rfl⟩ := zipS_get _ _ _ _ hu
  obtain ⟨c', t', e2, rfl⟩ := zipS_get _ _ _ _ hv
  rw [h, e2] at e1
  cases e1
  have z := SeqRoads2.EqGives.str ⟨#[c]⟩ ⟨#[c]⟩ t t'
  rw [beq_self_eq_true] at z
  exact z
section
variable {w : World} {k : KP} {sc Z L K O ci cm ch cc : Addr} {k0 k1 k2 k3 k4 k5 k6 k7 k8 : Nat} {X : Str} {tX : Nat} {E : Str} {tE : Nat} {i dd md : Int} {ti td tm : Nat} {h : Heap} {g : Array GenState} {d : Drawn} {os : OsState}
theorem perm12 {α : Type} (x l c o : α) (ks M : List α) : ([x, l, c] ++ ks ++ [o] ++ M).Perm ([l, c] ++ ks ++ ([x, o] ++ M)) := by
  have e1 : [x, l, c] ++ ks ++ [o] ++ M = x :: ([l, c] ++ ks ++ (o :: M)) := by simp
  have e2 : [l, c] ++ ks ++ ([x, o] ++ M) = [l, c] ++ ks ++ x :: (o :: M) := by simp
  rw [e1, e2]
  exact List.perm_middle.symm
theorem st12 {xs : List Addr} {h₀ : Heap} {t : Nat} {Q : Flow → Shared → Prop} {m : List Value} {t1 t2 B n eo : Nat} (hk : k.fn = 37)
    (hF : ∀ tk : Nat → Nat, (∀ i, 1 ≤ tk i) → ∀ P ∈ factsW E tE i dd md ti tk, P) (hE : ∀ t1 t2 t3 t4, srtN (cut24 E i dd md ti t1 t2).cps.toList = srtN (cut13 E i dd md ti t3 t4).cps.toList)
    (D : Lg xs h₀ h (lg9 w k sc Z L K cm O k0 k1 k2 k3 k4 k5 k6 k7 k8 X tX E tE i dd md ti td tm m (srtV (cut24 E i dd md ti t1 t2).cps.toList B n) eo)) (hT : TopOf (ktA w) h) (hn : 111 ≤ h₀.objs.size) (hx : ∀ a ∈ xs, (ktA w).get a = none) (ht : 1 ≤ t)
    (hq : ∀ h' t', Lg xs h₀ h' [(16, growO (tabA w) m)] → 1 ≤ t' → Q (.ret (.bool true)) ⟨h', g, d, t', os⟩) :
    wpAny (model pr w) (An 410 4100) (execs [sEnd w] (lwE w L ci cm ch cc)) Q NoE ⟨h, g, d, t, os⟩ := by
  refine wpAny_execs_cons ?_
  rw [sEnd_eq]
  refine wpAny_Return_some ?_
  refine wpAny_Compare1 ?_ ?_
  rotate_left
  · kernel_rfl
  have D0 : Lg xs h₀ h (lgW w k sc Z L K cm O k0 k1 k2 k3 k4 k5 k6 k7 k8 X tX E tE i dd md ti td tm ++ ([(16, growO (tabA w) m), (O, liS (srtV (cut24 E i dd md ti t1 t2).cps.toList B n) eo)] ++ [])) :=
    D.perm (by
      have z := (perm12 (16, growO (tabA w) m) (L, lwF9 w sc Z K k.C O k0 k1 k2 k3 k4 X tX E tE i dd ti td k5 k6 k7 k8) (cm, celI md tm) (O, liS (srtV (cut24 E i dd md ti t1 t2).cps.toList B n) eo) (k.as.zip (k.os w)) []).symm
      rw [List.append_nil ([_, _, _] ++ _ ++ [_])] at z
      exact z)
  rw [List.append_nil] at D0
  refine evWL (w := w) (sc := sc) (Z := Z) (K := K) (O := O) (M := [(cm, celI md tm)] ++ k.as.zip (k.os w) ++ [(16, growO (tabA w) m), (O, liS (srtV (cut24 E i dd md ti t1 t2).cps.toList B n) eo)]) D0 hT hn hx ht ?_
  intro h1 u1 D1 hT1 ht1
  have D1' : Lg xs h₀ h1 (lgW w k sc Z L K cm O k0 k1 k2 k3 k4 k5 k6 k7 k8 X tX E tE i dd md ti td tm ++ [(16, growO (tabA w) m), (O, liS (srtV (cut24 E i dd md ti t1 t2).cps.toList B n) eo)]) := D1
  refine evW hk hF D1' hT1 hn hx ht1 ?_
  intro h2 u2 O2 t3 t4 B2 n2 eo2 D2 hT2 ht2
  have gO : h2.get? O = some (liS (srtV (cut24 E i dd md ti t1 t2).cps.toList B n) eo) := D2.get (O, _) (List.mem_append.mpr (.inr (.tail _ (.tail _ (.head _)))))
  have gO2 : h2.get? O2 = some (liS (srtV (cut13 E i dd md ti t3 t4).cps.toList B2 n2) eo2) := D2.get (O2, _) (List.mem_append.mpr (.inr (.head _)))
  have hs := hE t1 t2 t3 t4
  have hl : (srtV (cut24 E i dd md ti t1 t2).cps.toList B n).length = (srtV (cut13 E i dd md ti t3 t4).cps.toList B2 n2).length := by
    rw [srtV_len, srtV_len, ← srtN_len (cut24 E i dd md ti t1 t2).cps.toList, hs, srtN_len]
  refine P.eq_list (e := fun _ => true) (items := ⟨srtV (cut24 E i dd md ti t1 t2).cps.toList B n⟩) (items2 := ⟨srtV (cut13 E i dd md ti t3 t4).cps.toList B2 n2⟩) (n := eo) (n2 := eo2) gO gO2 hl (fun j h1 h2 => ?_) (by decide +kernel) ?_
  · exact srtV_eqv hs B n B2 n2 j _ _ (List.getElem?_eq_getElem (by simpa using h1)) (List.getElem?_eq_getElem (by simpa using h2))
  · rw [show (List.range (⟨srtV (cut24 E i dd md ti t1 t2).cps.toList B n⟩ : Array Value).size).all (fun _ => true) = true by simp]
    refine hq h2 u2 (D2.less2 ?_) ht2
    exact (List.Sublist.cons _ (List.Sublist.cons_cons _ (List.nil_sublist _))).trans (List.sublist_append_right _ _)
end
end Mine
end
section
open PySem PySem.W PyProof.Rows PySem.W.X Mine
set_option Elab.async false
set_option maxRecDepth 100000
set_option maxHeartbeats 4000000
set_option linter.unusedVariables false
namespace Mine
theorem drop_cnt {c e : Nat} {l : List Nat} (h : 1 ≤ cntL c l) : cntL e (dropC c l) + (if c = e then 1 else 0) = cntL e l := by
  have hl := last_lt h
  have hg := (lastIx_spec c l h).1
  have e1 : l = l.take (lastIx c l) ++ (c :: l.drop (lastIx c l + 1)) := by
    have q : l[lastIx c l] = c := by
      rw [List.getElem?_eq_getElem hl] at hg
      exact Option.some.inj hg
    have z : l[lastIx c l] :: l.drop (lastIx c l + 1) = l.drop (lastIx c l) := List.getElem_cons_drop ..
    rw [q] at z
    rw [z, List.take_append_drop]
  have e2 : cntL e l = cntL e (l.take (lastIx c l)) + ((if c = e then cntL e (l.drop (lastIx c l + 1)) + 1 else cntL e (l.drop (lastIx c l + 1)))) := by
    conv => lhs; rw [e1]
    exact cntL_app e _ _
  unfold dropC
  rw [cntL_app, e2]
  split <;> omega
theorem pred_even {a b : Nat} (h : a + 1 = b) (hb : b % 2 = 1) : a % 2 = 0 := by omega
theorem evenC_self (c : Nat) (l : List Nat) : cntL c (evenC c l) % 2 = 0 := by
  unfold evenC
  split
  · rename_i h
    have := drop_cnt (c := c) (e := c) (l := l) (odd_pos h)
    rw [if_pos rfl] at this
    exact pred_even this h
  · exact (Nat.mod_two_eq_zero_or_one _).resolve_right (by assumption)
theorem evenC_other {c e : Nat} (h : c ≠ e) (l : List Nat) : cntL e (evenC c l) = cntL e l := by
  unfold evenC
  split
  · rename_i q
    have := drop_cnt (c := c) (e := e) (l := l) (odd_pos q)
    rw [if_neg h] at this
    exact this
  · rfl
theorem evenL_even (l : List Nat) : cntL 114 (evenL l) % 2 = 0 ∧ cntL 119 (evenL l) % 2 = 0 ∧ cntL 120 (evenL l) % 2 = 0 := by
  unfold evenL
  refine ⟨?_, ?_, evenC_self _ _⟩
  · rw [evenC_other (by decide), evenC_other (by decide)]
    exact evenC_self _ _
  · rw [evenC_other (by decide)]
    exact evenC_self _ _
theorem sh1 {a b c : Nat} : a + b + c + 1 = a + 1 + b + c := by rw [Nat.add_right_comm a 1 b, Nat.add_right_comm (a + b) 1 c]
theorem sh2 {a b c : Nat} : a + b + c + 1 = a + (b + 1) + c := (Nat.add_right_comm (a + b) 1 c).symm
theorem cnt_all : ∀ l : List Nat, (∀ c ∈ l, c ∈ rwx) → l.length = cntL 114 l + cntL 119 l + cntL 120 l
  | [], _ => rfl
  | d :: l, h => by
    have ih := cnt_all l fun c hc => h c (.tail _ hc)
    have hd := h d (.head _)
    simp only [rwx, List.mem_cons, List.not_mem_nil, or_false] at hd
    rw [List.length_cons, ih]
    rcases hd with rfl | rfl | rfl
    · exact sh1
    · exact sh2
    · rfl
theorem cnt_count (c : Nat) : ∀ l : List Nat, cntL c l = l.count c
  | [] => rfl
  | d :: l => by
    show (if d = c then cntL c l + 1 else cntL c l) = (d :: l).count c
    rw [List.count_cons, cnt_count c l]
    by_cases h : d = c
    · rw [if_pos h, if_pos (by rw [h]; exact beq_self_eq_true _)]
    · rw [if_neg h, if_neg (by simpa using h)]
      rfl
theorem perm_of_cnt {a b : List Nat} (ha : ∀ c ∈ a, c ∈ rwx) (hb : ∀ c ∈ b, c ∈ rwx) (h1 : cntL 114 a = cntL 114 b) (h2 : cntL 119 a = cntL 119 b) (h3 : cntL 120 a = cntL 120 b) : a.Perm b := by
  rw [List.perm_iff_count]
  intro c
  rw [← cnt_count, ← cnt_count]
  by_cases hc : c ∈ rwx
  · simp only [rwx, List.mem_cons, List.not_mem_nil, or_false] at hc
    rcases hc with rfl | rfl | rfl <;> assumption
  · rw [cntL_no fun q => hc (ha c q), cntL_no fun q => hc (hb c q)]
noncomputable def wtL : List Nat → Nat
  | [] => 0
  | c :: l => w64 c + wtL l
theorem wa {a b c : Nat} : 1 + (a + 64 * b + 4096 * c) = (a + 1) + 64 * b + 4096 * c := by simp +arith only
theorem wb {a b c : Nat} : 64 + (a + 64 * b + 4096 * c) = a + 64 * (b + 1) + 4096 * c := by simp +arith only
theorem wc {a b c : Nat} : 4096 + (a + 64 * b + 4096 * c) = a + 64 * b + 4096 * (c + 1) := by simp +arith only
theorem wtL_cnt : ∀ l : List Nat, (∀ c ∈ l, c ∈ rwx) → wtL l = cntL 114 l + 64 * cntL 119 l + 4096 * cntL 120 l
  | [], _ => rfl
  | d :: l, h => by
    have ih := wtL_cnt l fun c hc => h c (.tail _ hc)
    have hd := h d (.head _)
    simp only [rwx, List.mem_cons, List.not_mem_nil, or_false] at hd
    show w64 d + wtL l = _
    rw [ih]
    rcases hd with rfl | rfl | rfl
    · exact wa
    · exact wb
    · exact wc
theorem prefS_get : ∀ (l : List Nat) (z : Int) (j : Nat), j < l.length → (prefS z l)[j]? = some (z + ((wtL (l.take (j + 1)) : Nat) : Int))
  | [], _, j, h => absurd h (Nat.not_lt_zero _)
  | c :: l, z, 0, _ => by
    show some (z + .ofNat (w64 c)) = some (z + ((w64 c + 0 : Nat) : Int))
    rfl
  | c :: l, z, j + 1, h => by
    show (prefS (z + .ofNat (w64 c)) l)[j]? = some (z + ((w64 c + wtL (l.take (j + 1)) : Nat) : Int))
    rw [prefS_get l _ j (Nat.lt_of_succ_lt_succ h)]
    congr 1
    have : (Int.ofNat (w64 c)) = ((w64 c : Nat) : Int) := rfl
    omega
theorem zipI_len : ∀ (zs : List Int) (ts : List Nat), zs.length = ts.length → (zipI zs ts).length = zs.length
  | [], _, _ => rfl
  | z :: zs, [], h => nomatch h
  | z :: zs, t :: ts, h => by
    rw [zipI_cons, List.length_cons, List.length_cons, zipI_len zs ts (Nat.succ.inj h)]
theorem zipI_get : ∀ (zs : List Int) (ts : List Nat) (j : Nat) (z : Int), zs.length = ts.length → zs[j]? = some z → ∃ t, (zipI zs ts)[j]? = some (.int z t)
  | [], _, j, z, _, h => by simp at h
  | y :: zs, [], _, _, h, _ => nomatch h
  | y :: zs, t :: ts, 0, z, _, h => by
    rw [zipI_cons]
    simp at h
    subst h
    exact ⟨t, rfl⟩
  | y :: zs, t :: ts, j + 1, z, hl, h => by
    rw [zipI_cons]
    simp at h
    simpa using zipI_get zs ts j z (Nat.succ.inj hl) h
theorem ctV_len (l : List Nat) (tz B n : Nat) : (ctV l tz B n).length = l.length + 1 := by
  unfold ctV cntV
  rw [List.length_cons, zipI_len _ _ (by rw [prefS_len, decT_len]), prefS_len]
theorem ctV_get (l : List Nat) (tz B n j : Nat) (h : j ≤ l.length) : ∃ t, (ctV l tz B n)[j]? = some (.int ((wtL (l.take j) : Nat) : Int) t) := by
  cases j with
  | zero => exact ⟨tz, rfl⟩
  | succ j =>
    have z := prefS_get l 0 j h
    rw [Int.zero_add] at z
    obtain ⟨t, e⟩ := zipI_get (prefS 0 l) (decT B n l.length) j _ (by rw [prefS_len, decT_len]) z
    exact ⟨t, e⟩
theorem ctV_gI (l : List Nat) (tz B n j : Nat) (h : j ≤ l.length) : gI (ctV l tz B n) (j : Int) = ((wtL (l.take j) : Nat) : Int) := by
  obtain ⟨t, e⟩ := ctV_get l tz B n j h
  unfold gI
  rw [Int.toNat_natCast, List.getD_eq_getElem?_getD, e]
  rfl
theorem ctV_item (l : List Nat) (tz B n j : Nat) (h : j ≤ l.length) (hl : l.length ≤ 500) : ItemOk (ctV l tz B n) (j : Int) := by
  obtain ⟨t, e⟩ := ctV_get l tz B n j h
  refine ⟨Int.natCast_nonneg _, by omega, ?_⟩
  unfold itV
  rw [Int.toNat_natCast, List.getD_eq_getElem?_getD, e]
  rfl
theorem ctV_last (l : List Nat) (tz B n : Nat) : LastOk (ctV l tz B n) ∧ lastI (ctV l tz B n) = ((wtL l : Nat) : Int) := by
  obtain ⟨t, e⟩ := ctV_get l tz B n l.length (Nat.le_refl _)
  rw [List.take_length] at e
  refine ⟨⟨by rw [ctV_len]; omega, ?_⟩, ?_⟩
  · unfold itV
    rw [ctV_len, Nat.add_sub_cancel, List.getD_eq_getElem?_getD, e]
    rfl
  · unfold lastI
    rw [ctV_len, Nat.add_sub_cancel, List.getD_eq_getElem?_getD, e]
    rfl
theorem firstM_spec {P : Nat → Bool} : ∀ (r j k : Nat), firstM P j r = some k → j ≤ k ∧ k < j + r ∧ P k = true
  | 0, j, k, h => nomatch h
  | r + 1, j, k, h => by
    have h' : (if P j = true then some j else firstM P (j + 1) r) = some k := h
    by_cases hp : P j = true
    · rw [if_pos hp] at h'
      cases h'
      exact ⟨Nat.le_refl _, by omega, hp⟩
    · rw [if_neg hp] at h'
      obtain ⟨a, b, c⟩ := firstM_spec r (j + 1) k h'
      exact ⟨by omega, by omega, c⟩
theorem firstM_some {P : Nat → Bool} : ∀ (r j k : Nat), j ≤ k → k < j + r → P k = true → (firstM P j r).isSome = true
  | 0, j, k, h1, h2, _ => by omega
  | r + 1, j, k, h1, h2, h3 => by
    show (if P j = true then some j else firstM P (j + 1) r).isSome = true
    by_cases hp : P j = true
    · rw [if_pos hp]; rfl
    · rw [if_neg hp]
      have hk : j ≠ k := fun e => hp (e ▸ h3)
      exact firstM_some r (j + 1) k (by omega) (by omega) h3
end Mine
end
section
open PySem PySem.W PyProof.Rows PySem.W.X Mine
set_option Elab.async false
set_option maxRecDepth 100000
set_option maxHeartbeats 4000000
set_option linter.unusedVariables false
namespace Mine
structure Nk (L : List Nat) : Prop where
  mem : ∀ c ∈ L, c ∈ rwx
  e1 : cntL 114 L % 2 = 0
  e2 : cntL 119 L % 2 = 0
  e3 : cntL 120 L % 2 = 0
  len : L.length ≤ 36
section
variable {L : List Nat}
theorem ev2 {a : Nat} (h : a % 2 = 0) : ∃ x, a = 2 * x := ⟨a / 2, (Nat.mul_div_cancel' (Nat.dvd_of_mod_eq_zero h)).symm⟩
theorem two_of {n a b c : Nat} (h : n = a + b + c) (h1 : a % 2 = 0) (h2 : b % 2 = 0) (h3 : c % 2 = 0) : 2 * (n / 2) = n ∧ n / 2 = a / 2 + b / 2 + c / 2 := by
  obtain ⟨x, rfl⟩ := ev2 h1
  obtain ⟨y, rfl⟩ := ev2 h2
  obtain ⟨z, rfl⟩ := ev2 h3
  have hp : 0 < 2 := by decide
  rw [h, ← Nat.mul_add, ← Nat.mul_add, Nat.mul_div_cancel_left _ hp, Nat.mul_div_cancel_left _ hp, Nat.mul_div_cancel_left _ hp, Nat.mul_div_cancel_left _ hp]
  exact ⟨rfl, rfl⟩
theorem Nk.two (H : Nk L) : 2 * (L.length / 2) = L.length := (two_of (cnt_all L H.mem) H.e1 H.e2 H.e3).1
theorem Nk.half (H : Nk L) : L.length / 2 = cntL 114 L / 2 + cntL 119 L / 2 + cntL 120 L / 2 := (two_of (cnt_all L H.mem) H.e1 H.e2 H.e3).2
theorem Nk.full (H : Nk L) : L.take (2 * (L.length / 2)) = L := by rw [H.two, List.take_length]
theorem Nk.take (H : Nk L) (k : Nat) : ∀ c ∈ L.take k, c ∈ rwx := fun c hc => H.mem c (List.mem_of_mem_take hc)
theorem Nk.mid (H : Nk L) (i k : Nat) : ∀ c ∈ (L.drop i).take k, c ∈ rwx := fun c hc => H.mem c (List.mem_of_mem_drop (List.mem_of_mem_take hc))
theorem cnt_le (c : Nat) : ∀ l : List Nat, cntL c l ≤ l.length
  | [] => Nat.le_refl _
  | d :: l => by
    have := cnt_le c l
    show (if d = c then cntL c l + 1 else cntL c l) ≤ l.length + 1
    split
    · exact Nat.succ_le_succ this
    · exact Nat.le_succ_of_le this
theorem cnt_add (c : Nat) (L : List Nat) (i d : Nat) : cntL c (L.take (i + d)) = cntL c (L.take i) + cntL c ((L.drop i).take d) := by
  rw [List.take_add, cntL_app]
theorem cnt_drop (c : Nat) (L : List Nat) (i : Nat) : cntL c L = cntL c (L.take i) + cntL c (L.drop i) := by
  rw [← cntL_app, List.take_append_drop]
theorem wtL_app : ∀ a b : List Nat, wtL (a ++ b) = wtL a + wtL b
  | [], b => (Nat.zero_add _).symm
  | c :: a, b => by
    show w64 c + wtL (a ++ b) = w64 c + wtL a + wtL b
    rw [wtL_app a b, Nat.add_assoc]
theorem wt_add (L : List Nat) (i d : Nat) : wtL (L.take (i + d)) = wtL (L.take i) + wtL ((L.drop i).take d) := by
  rw [List.take_add, wtL_app]
theorem cnt_step (H : Nk L) (k : Nat) (hk : k < L.length) : ∃ d, d ∈ rwx ∧ ∀ c, cntL c (L.take (k + 1)) = cntL c (L.take k) + (if d = c then 1 else 0) := by
  refine ⟨L[k], H.mem _ (List.getElem_mem hk), fun c => ?_⟩
  rw [List.take_succ_eq_append_getElem hk, cntL_app]
  show _ + (if L[k] = c then 0 + 1 else 0) = _
  split <;> rfl
theorem half_of {n a b c : Nat} (h : n = a + 64 * b + 4096 * c) (h1 : a % 2 = 0) (h2 : b % 2 = 0) (h3 : c % 2 = 0) : n / 2 = a / 2 + 64 * (b / 2) + 4096 * (c / 2) := by
  obtain ⟨x, rfl⟩ := ev2 h1
  obtain ⟨y, rfl⟩ := ev2 h2
  obtain ⟨z, rfl⟩ := ev2 h3
  have hp : 0 < 2 := by decide
  rw [h, Nat.mul_left_comm 64, Nat.mul_left_comm 4096, ← Nat.mul_add, ← Nat.mul_add, Nat.mul_div_cancel_left _ hp, Nat.mul_div_cancel_left _ hp, Nat.mul_div_cancel_left _ hp, Nat.mul_div_cancel_left _ hp]
theorem Nk.wt (H : Nk L) : wtL L / 2 = cntL 114 L / 2 + 64 * (cntL 119 L / 2) + 4096 * (cntL 120 L / 2) := half_of (wtL_cnt L H.mem) H.e1 H.e2 H.e3
noncomputable def CutE (L : List Nat) (i d : Nat) : Prop := wtL (L.take (L.length / 2 + d)) = wtL ((L.drop i).take d) + wtL L / 2
theorem kind_of {x a b y h : Nat} (e : (x : Int) - (h : Int) = (y : Int) - (a : Int)) (e2 : y = a + b) : x = b + h := by omega
theorem third_of {x1 x2 x3 b1 b2 b3 h1 h2 h3 M d : Nat} (l1 : M + d = x1 + x2 + x3) (l2 : d = b1 + b2 + b3) (l3 : M = h1 + h2 + h3) (e1 : x1 = b1 + h1) (e2 : x2 = b2 + h2) : x3 = b3 + h3 := by
  rw [l3, l2, e1, e2, Nat.add_add_add_comm (h1 + h2) h3 (b1 + b2) b3, Nat.add_add_add_comm b1 h1 b2 h2, Nat.add_comm (h1 + h2)] at l1
  exact (Nat.add_left_cancel l1).symm.trans (Nat.add_comm h3 b3)
theorem sum_of {b1 b2 b3 h1 h2 h3 : Nat} : b1 + h1 + 64 * (b2 + h2) + 4096 * (b3 + h3) = b1 + 64 * b2 + 4096 * b3 + (h1 + 64 * h2 + 4096 * h3) := by
  rw [Nat.mul_add, Nat.mul_add, Nat.add_add_add_comm b1 h1, Nat.add_add_add_comm]
theorem twice {x : Nat} (h : x % 2 = 0) : (x : Int) = 2 * ((x / 2 : Nat) : Int) := by omega
theorem Nk.cuts (H : Nk L) : ∃ i d, i ≤ L.length / 2 ∧ d ≤ L.length / 2 ∧ CutE L i d := by
  have h2 := H.two
  obtain ⟨i, d, hi, hd, q1, q2⟩ := neck (L.length / 2) (fun k => (cntL 114 (L.take k) : Int)) (fun k => (cntL 119 (L.take k) : Int)) ((cntL 114 L / 2 : Nat) : Int) ((cntL 119 L / 2 : Nat) : Int)
    (fun k hk => by
      obtain ⟨e, he, st⟩ := cnt_step H k (h2 ▸ hk)
      have s1 := st 114
      have s2 := st 119
      simp only [rwx, List.mem_cons, List.not_mem_nil, or_false] at he
      rcases he with rfl | rfl | rfl
      · exact .inl ⟨congrArg Int.ofNat s1, congrArg Int.ofNat s2⟩
      · exact .inr (.inl ⟨congrArg Int.ofNat s1, congrArg Int.ofNat s2⟩)
      · exact .inr (.inr ⟨congrArg Int.ofNat s1, congrArg Int.ofNat s2⟩))
    rfl rfl (by show (cntL 114 (L.take _) : Int) = _; rw [H.full]; exact twice H.e1) (by show (cntL 119 (L.take _) : Int) = _; rw [H.full]; exact twice H.e2)
  refine ⟨i, d, hi, hd, ?_⟩
  have k1 := kind_of q1 (cnt_add 114 L i d)
  have k2 := kind_of q2 (cnt_add 119 L i d)
  have hMd : L.length / 2 + d ≤ L.length := Nat.le_trans (Nat.add_le_add_left hd _) (Nat.le_of_eq ((Nat.two_mul _).symm.trans h2))
  have hid : i + d ≤ L.length := Nat.le_trans (Nat.add_le_add_right hi _) hMd
  have l1 := cnt_all _ (H.take (L.length / 2 + d))
  rw [List.length_take, Nat.min_eq_left hMd] at l1
  have l2 := cnt_all _ (H.mid i d)
  rw [List.length_take, List.length_drop, Nat.min_eq_left (Nat.le_sub_of_add_le (Nat.add_comm d i ▸ hid))] at l2
  have k3 := third_of l1 l2 H.half k1 k2
  unfold CutE
  rw [wtL_cnt _ (H.take _), wtL_cnt _ (H.mid i d), H.wt, k1, k2, k3]
  exact sum_of
theorem dig {a1 a2 a3 b1 b2 b3 : Nat} (h : a1 + 64 * a2 + 4096 * a3 = b1 + 64 * b2 + 4096 * b3) (u1 : a1 < 64) (u2 : a2 < 64) (v1 : b1 < 64) (v2 : b2 < 64) : a1 = b1 ∧ a2 = b2 ∧ a3 = b3 := by
  have e1 : a1 = b1 := by omega
  subst e1
  have e2 : a2 = b2 := by omega
  subst e2
  exact ⟨rfl, rfl, by omega⟩
theorem lt64 {a b : Nat} (h1 : a ≤ 27) (h2 : b ≤ 36) : a + b / 2 < 64 := by omega
theorem Nk.kinds (H : Nk L) {i d : Nat} (hd : d ≤ L.length / 2) (h : CutE L i d) : ∀ c ∈ rwx, cntL c (L.take (L.length / 2 + d)) = cntL c ((L.drop i).take d) + cntL c L / 2 := by
  have hlen := H.len
  have b1 : ∀ c k, cntL c (L.take k) < 64 := fun c k => Nat.lt_of_le_of_lt (Nat.le_trans (cnt_le _ _) (Nat.le_trans (List.length_take_le' _ _) hlen)) (by decide)
  have hd' : d ≤ 27 := Nat.le_trans hd (Nat.le_trans (Nat.div_le_div_right hlen) (by decide))
  have b2 : ∀ c, cntL c ((L.drop i).take d) + cntL c L / 2 < 64 := fun c => lt64 (Nat.le_trans (cnt_le _ _) (Nat.le_trans (List.length_take_le _ _) hd')) (Nat.le_trans (cnt_le _ _) hlen)
  unfold CutE at h
  rw [wtL_cnt _ (H.take _), wtL_cnt _ (H.mid i d), H.wt, ← sum_of] at h
  obtain ⟨e1, e2, e3⟩ := dig h (b1 _ _) (b1 _ _) (b2 _) (b2 _)
  intro c hc
  simp only [rwx, List.mem_cons, List.not_mem_nil, or_false] at hc
  rcases hc with rfl | rfl | rfl
  · exact e1
  · exact e2
  · exact e3
theorem sl_list (L : List Nat) (a b ta tb : Nat) (h : a ≤ b) : (slCut (sL L) (some ((a : Int), ta)) (some ((b : Int), tb))).cps.toList = (L.drop a).take (b - a) := by
  show (cutS (sL L) (Int.toNat (a : Int)) (Int.toNat (b : Int))).cps.toList = _
  rw [Int.toNat_natCast, Int.toNat_natCast]
  rfl
theorem sl_to (L : List Nat) (b tb : Nat) : (slCut (sL L) none (some ((b : Int), tb))).cps.toList = L.take b := by
  show (cutS (sL L) (Int.toNat 0) (Int.toNat (b : Int))).cps.toList = _
  rw [Int.toNat_natCast]
  rfl
theorem sl_from (L : List Nat) (a ta : Nat) : (slCut (sL L) (some ((a : Int), ta)) none).cps.toList = L.drop a := by
  show (cutS (sL L) (Int.toNat (a : Int)) (Int.toNat (((sL L).cps.toList.length : Nat) : Int))).cps.toList = _
  rw [Int.toNat_natCast, Int.toNat_natCast]
  show (L.drop a).take (L.length - a) = _
  rw [List.take_of_length_le (by rw [List.length_drop]; exact Nat.le_refl _)]
theorem str_app (a b : Str) : (a ++ b).cps.toList = a.cps.toList ++ b.cps.toList := by
  show (a.cps ++ b.cps).toList = _
  simp
theorem cut24_list (L : List Nat) (M i d t0 t1 t2 : Nat) : (cut24 (sL L) (i : Int) (d : Int) (M : Int) t0 t1 t2).cps.toList = (L.drop i).take d ++ L.drop (M + d) := by
  refine (str_app _ _).trans (congr (congrArg HAppend.hAppend ((sl_list L i (i + d) _ _ (Nat.le_add_right ..)).trans ?_)) (sl_from L (M + d) _))
  rw [Nat.add_sub_cancel_left]
theorem cut13_list (L : List Nat) (M i d t0 t1 t2 : Nat) (h : i ≤ M) : (cut13 (sL L) (i : Int) (d : Int) (M : Int) t0 t1 t2).cps.toList = L.take i ++ (L.drop (i + d)).take (M - i) := by
  refine (str_app _ _).trans (congr (congrArg HAppend.hAppend (sl_to L i _)) ((sl_list L (i + d) (M + d) _ _ (Nat.add_le_add_right h _)).trans ?_))
  rw [Nat.add_sub_add_right]
theorem same_of {a b c e x g : Nat} (h0 : g % 2 = 0) (h1 : x = b + g / 2) (h2 : g = x + c) (h3 : x = a + b + e) : b + c = a + e := by omega
theorem Nk.same (H : Nk L) {i d : Nat} (hi : i ≤ L.length / 2) (hd : d ≤ L.length / 2) (h : CutE L i d) (t1 t2 t3 t4 t5 t6 : Nat) :
    srtN (cut24 (sL L) (i : Int) (d : Int) ((L.length / 2 : Nat) : Int) t1 t2 t3).cps.toList = srtN (cut13 (sL L) (i : Int) (d : Int) ((L.length / 2 : Nat) : Int) t4 t5 t6).cps.toList := by
  rw [cut24_list, cut13_list _ _ _ _ _ _ _ hi]
  have k := H.kinds hd h
  have ev : ∀ c ∈ rwx, cntL c L % 2 = 0 := fun c hc => by
    simp only [rwx, List.mem_cons, List.not_mem_nil, or_false] at hc
    rcases hc with rfl | rfl | rfl
    · exact H.e1
    · exact H.e2
    · exact H.e3
  have cnt : ∀ c ∈ rwx, cntL c ((L.drop i).take d ++ L.drop (L.length / 2 + d)) = cntL c (L.take i ++ (L.drop (i + d)).take (L.length / 2 - i)) := fun c hc => by
    have a4 := cnt_add c L (i + d) (L.length / 2 - i)
    rw [Nat.add_right_comm, Nat.add_sub_cancel' hi, cnt_add c L i d] at a4
    rw [cntL_app, cntL_app]
    exact same_of (ev c hc) (k c hc) (cnt_drop c L (L.length / 2 + d)) a4
  refine srtN_eq (perm_of_cnt (fun c hc => H.mem c ?_) (fun c hc => H.mem c ?_) (cnt 114 (.head _)) (cnt 119 (.tail _ (.head _))) (cnt 120 (.tail _ (.tail _ (.head _)))))
  · rcases List.mem_append.mp hc with q | q
    · exact List.mem_of_mem_drop (List.mem_of_mem_take q)
    · exact List.mem_of_mem_drop q
  · rcases List.mem_append.mp hc with q | q
    · exact List.mem_of_mem_take q
    · exact List.mem_of_mem_drop (List.mem_of_mem_take q)
theorem nk_of (m : Nat) (X : Nat → Int) (hm : m ≤ 4) : Nk (evenL (sgL m X)) := by
  obtain ⟨a, b, c⟩ := evenL_even (sgL m X)
  refine ⟨fun e he => sgL_rwx m X e (evenL_mem he), a, b, c, ?_⟩
  have := evenL_len (sgL m X)
  have := sgL_len m X
  omega
end
end Mine
end
section
open PySem PySem.W PyProof.Rows PySem.W.X Mine
set_option Elab.async false
set_option maxRecDepth 100000
set_option maxHeartbeats 4000000
set_option linter.unusedVariables false
namespace Mine
theorem hlf_nat (k : Nat) : hlf ((k : Nat) : Int) = ((k / 2 : Nat) : Int) := by
  unfold hlf
  rw [← Z.divQ_eq]
  show ((k : Nat) : Int).fdiv ((2 : Nat) : Int) = _
  rw [Int.fdiv_eq_ediv_of_nonneg _ (Int.natCast_nonneg _), ← Int.natCast_ediv]
theorem cut_lin {x a b y h : Nat} (e : y = a + b) : ((x : Int) - (h : Int) = (y : Int) - (a : Int)) ↔ x = b + h := by omega
theorem lims {M n i d : Nat} (h2 : 2 * M = n) (hi : i ≤ M) (hd : d ≤ M) : M + d ≤ n ∧ i + d ≤ n ∧ i ≤ n := by omega
theorem len_lims {n M i d : Nat} (h2 : 2 * M = n) (hl : n ≤ 36) (hi : i ≤ M) (hd : d ≤ M) : min d (n - i) + (n - (M + d)) < 64 := by
  refine Nat.lt_of_le_of_lt (Nat.add_le_add (Nat.min_le_left d _) (Nat.sub_le_sub_left (Nat.le_add_left d M) n)) ?_
  rw [Nat.add_sub_cancel' (Nat.le_trans hd (Nat.le_trans (Nat.le_mul_of_pos_left M (by decide : 0 < 2)) (Nat.le_of_eq h2)))]
  exact Nat.lt_of_le_of_lt hl (by decide)
theorem len_lims2 {n M i d : Nat} (h2 : 2 * M = n) (hl : n ≤ 36) (hi : i ≤ M) : min i n + min (M - i) (n - (i + d)) < 64 := by
  refine Nat.lt_of_le_of_lt (Nat.add_le_add (Nat.min_le_left _ _) (Nat.min_le_left _ _)) ?_
  rw [Nat.add_sub_cancel' hi]
  exact Nat.lt_of_le_of_lt (Nat.le_trans (Nat.le_mul_of_pos_left M (by decide : 0 < 2)) (Nat.le_trans (Nat.le_of_eq h2) hl)) (by decide)
theorem two72 {a b n : Nat} (h1 : a ≤ n) (h2 : b ≤ n) (hl : n ≤ 36) : a + b ≤ 1000 := by omega
section
variable {L : List Nat} {tz B n : Nat}
theorem cutP_iff (H : Nk L) {i d : Nat} (hi : i ≤ L.length / 2) (hd : d ≤ L.length / 2) : cutP (ctV L tz B n) ((wtL L / 2 : Nat) : Int) ((L.length / 2 : Nat) : Int) (i : Int) d = true ↔ CutE L i d := by
  obtain ⟨b1, b2, b3⟩ := lims H.two hi hd
  have g1 := ctV_gI L tz B n (L.length / 2 + d) b1
  have g2 := ctV_gI L tz B n (i + d) b2
  have g3 := ctV_gI L tz B n i b3
  unfold cutP
  rw [decide_eq_true_eq]
  rw [Int.natCast_add] at g1 g2
  rw [g1, g2, g3]
  exact cut_lin (wt_add L i d)
theorem toN (k : Nat) : (((k : Nat) : Int) + 1).toNat = k + 1 := rfl
theorem nk_flok (H : Nk L) : FlOk (ctV L tz B n) ((wtL L / 2 : Nat) : Int) ((L.length / 2 : Nat) : Int) (((L.length / 2 : Nat) : Int) + 1) := by
  have h18 : L.length / 2 ≤ 18 := Nat.div_le_div_right (c := 2) H.len
  have hl5 : L.length ≤ 500 := Nat.le_trans H.len (by decide)
  refine ⟨rfl, Int.natCast_nonneg _, Int.ofNat_le.mpr (Nat.le_trans h18 (by decide)), fun i hi => ?_, ?_⟩
  · rw [toN] at hi ⊢
    have hi' := Nat.le_of_lt_succ hi
    refine ⟨Nat.le_add_left .., Nat.le_trans (Nat.succ_le_succ h18) (by decide), ctV_item _ _ _ _ _ (lims H.two hi' (Nat.zero_le _)).2.2 hl5, fun dN hd => ?_⟩
    obtain ⟨b1, b2, b3⟩ := lims H.two hi' (Nat.le_of_lt_succ hd)
    exact ⟨ctV_item _ _ _ _ _ b2 hl5, ctV_item _ _ _ _ _ b1 hl5⟩
  · rw [toN]
    obtain ⟨i, d, hi, hd, h⟩ := H.cuts
    refine firstM_some _ 0 i (Nat.zero_le _) ((Nat.zero_add _).symm ▸ Nat.lt_succ_of_le hi) ?_
    exact firstM_some (P := cutP (ctV L tz B n) ((wtL L / 2 : Nat) : Int) ((L.length / 2 : Nat) : Int) (i : Int)) _ 0 d (Nat.zero_le _) ((Nat.zero_add _).symm ▸ Nat.lt_succ_of_le hd) ((cutP_iff H hi hd).mpr h)
theorem nk_cut (H : Nk L) {hf md : Int} (ehf : hf = ((wtL L / 2 : Nat) : Int)) (emd : md = ((L.length / 2 : Nat) : Int)) : ∃ d : Nat, fstI (ctV L tz B n) hf md (md + 1).toNat ≤ L.length / 2 ∧ d ≤ L.length / 2 ∧ cutD (ctV L tz B n) hf md (fstI (ctV L tz B n) hf md (md + 1).toNat : Nat) (md + 1).toNat = (d : Int) ∧
    CutE L (fstI (ctV L tz B n) hf md (md + 1).toNat) d := by
  subst ehf emd
  obtain ⟨_, _, _, _, hs⟩ := nk_flok (tz := tz) (B := B) (n := n) H
  rw [toN] at hs ⊢
  obtain ⟨i0, hi0⟩ := Option.isSome_iff_exists.mp hs
  have ei : fstI (ctV L tz B n) ((wtL L / 2 : Nat) : Int) ((L.length / 2 : Nat) : Int) (L.length / 2 + 1) = i0 := by unfold fstI; rw [hi0]; rfl
  obtain ⟨_, b2, b3⟩ := firstM_spec _ _ _ hi0
  rw [ei]
  have b3' : (cutF (ctV L tz B n) ((wtL L / 2 : Nat) : Int) ((L.length / 2 : Nat) : Int) (i0 : Int) (L.length / 2 + 1)).isSome = true := b3
  obtain ⟨d0, hd0⟩ := Option.isSome_iff_exists.mp b3'
  obtain ⟨_, c2, c3⟩ := firstM_spec _ _ _ hd0
  rw [Nat.zero_add] at b2 c2
  have hi := Nat.le_of_lt_succ b2
  have hd := Nat.le_of_lt_succ c2
  refine ⟨d0, hi, hd, ?_, (cutP_iff (tz := tz) (B := B) (n := n) H hi hd).mp c3⟩
  unfold cutD
  rw [hd0]
  rfl
theorem sl_ok1 (L : List Nat) {tE a b ta tb : Nat} (h1 : 1 ≤ tE) (h : a ≤ b) (hb : b ≤ L.length) (hl : L.length ≤ 36) : SlOk (sL L) tE (some ((a : Int), ta)) (some ((b : Int), tb)) :=
  ⟨h1, Int.natCast_nonneg _, Int.ofNat_le.mpr h, Int.ofNat_le.mpr hb, Nat.le_trans (n := L.length) hl (by decide)⟩
theorem sl_ok2 (L : List Nat) {tE b tb : Nat} (h1 : 1 ≤ tE) (hb : b ≤ L.length) (hl : L.length ≤ 36) : SlOk (sL L) tE none (some ((b : Int), tb)) :=
  ⟨h1, Int.le_refl _, Int.natCast_nonneg b, Int.ofNat_le.mpr hb, Nat.le_trans (n := L.length) hl (by decide)⟩
theorem sl_ok3 (L : List Nat) {tE a ta : Nat} (h1 : 1 ≤ tE) (ha : a ≤ L.length) (hl : L.length ≤ 36) : SlOk (sL L) tE (some ((a : Int), ta)) none :=
  ⟨h1, Int.natCast_nonneg _, Int.ofNat_le.mpr ha, Int.le_refl _, Nat.le_trans (n := L.length) hl (by decide)⟩
theorem sl_len (x : Str) (lo hi : Option (Int × Nat)) : (slCut x lo hi).length ≤ x.cps.toList.length := cut_len _ _ _
theorem facts9_ok (H : Nk L) {tE : Nat} {a : Addr} {rs : List Value} {i d ti : Nat} (h1 : 1 ≤ tE) (hi : i ≤ L.length / 2) (hd : d ≤ L.length / 2) (tk : Nat → Nat) (hk : ∀ j, 1 ≤ tk j) : ∀ P ∈ facts9 (sL L) tE a rs (i : Int) (d : Int) ((L.length / 2 : Nat) : Int) ti tk, P := by
  have hl := H.len
  obtain ⟨b1, b2, _⟩ := lims H.two hi hd
  refine allC ?_ (allC (two72 (n := L.length) (sl_len (sL L) _ _) (sl_len (sL L) _ _) hl) (allC (hk _) (allC (hk _) (allC (sl_ok3 (a := L.length / 2 + d) L h1 b1 hl) (allC (sl_ok1 (b := i + d) L h1 (Nat.le_add_right ..) b2 hl) (allC rfl allN))))))
  rw [cut24_list, List.length_append, List.length_take, List.length_drop, List.length_drop]
  exact len_lims H.two hl hi hd
theorem factsW_ok (H : Nk L) {tE : Nat} {i d ti : Nat} (h1 : 1 ≤ tE) (hi : i ≤ L.length / 2) (hd : d ≤ L.length / 2) (tk : Nat → Nat) (hk : ∀ j, 1 ≤ tk j) : ∀ P ∈ factsW (sL L) tE (i : Int) (d : Int) ((L.length / 2 : Nat) : Int) ti tk, P := by
  have hl := H.len
  obtain ⟨b1, b2, b3⟩ := lims H.two hi hd
  refine allC ?_ (allC (two72 (n := L.length) (sl_len (sL L) _ _) (sl_len (sL L) _ _) hl) (allC (hk _) (allC (hk _) (allC (sl_ok1 (a := i + d) (b := L.length / 2 + d) L h1 (Nat.add_le_add_right hi _) b1 hl) (allC (sl_ok2 L h1 b3 hl) allN)))))
  rw [cut13_list _ _ _ _ _ _ _ hi, List.length_append, List.length_take, List.length_take, List.length_drop]
  exact len_lims2 H.two hl hi
end
end Mine
end
section
open PySem PySem.W PyProof.Rows PySem.W.X Mine
set_option Elab.async false
set_option maxRecDepth 100000
set_option maxHeartbeats 0
set_option linter.unusedVariables false
namespace Mine
theorem body_eq (w : World) : lwBody w = (lwBody w).take 2 ++ (((lwBody w).drop 2).take 1 ++ (((lwBody w).drop 3).take 1 ++ (((lwBody w).drop 4).take 3 ++ (((lwBody w).drop 7).take 1 ++ (((lwBody w).drop 8).take 1 ++ (((lwBody w).drop 9).take 3 ++ [sEnd w])))))) := by kernel_rfl
noncomputable def LwR (w : World) (sc : Addr) (osc : Obj) (h₀ : Heap) (g : Array GenState) (d : Drawn) (os : OsState) (r : Result) (s' : Shared) : Prop :=
  r = .ok (.ret (.bool true)) ∧ ∃ h' t' m1, s' = ⟨h', g, d, t', os⟩ ∧ Lg [sc, 16] h₀ h' [(sc, osc), (16, growO (tabA w) m1)]
theorem law_rest {w : World} {sc Z L C K ci cm ch cc : Addr} {k0 k1 k2 k3 k4 : Nat} {X : Str} {tX : Nat} {l : List Nat} {tE tz B n th tm : Nat} {oz osc : Obj} {hf md : Int} {xs : List Addr} {h₀ h : Heap} {g : Array GenState} {d : Drawn} {os : OsState} {t : Nat} {Q : Flow → Shared → Prop}
    (H : Nk l) (htE : 1 ≤ tE) (ehf : hf = ((wtL l / 2 : Nat) : Int)) (emd : md = ((l.length / 2 : Nat) : Int))
    (D : Lg xs h₀ h (lgV7 w sc Z L C K ci cm ch cc k0 k1 k2 k3 k4 X tX (sL l) tE (ctV l tz B n) hf md th tm ++ [(Z, oz), (sc, osc), (16, tabA w)])) (hT : TopOf (ktA w) h) (hn : 111 ≤ h₀.objs.size) (hx : ∀ a ∈ xs, (ktA w).get a = none) (ht : 1 ≤ t)
    (hq : ∀ h' t' m1, Lg xs h₀ h' [(sc, osc), (16, growO (tabA w) m1)] → Q (.ret (.bool true)) ⟨h', g, d, t', os⟩) :
    wpAny (model pr w) (An 410 4100) (execs (((lwBody w).drop 7).take 1 ++ (((lwBody w).drop 8).take 1 ++ (((lwBody w).drop 9).take 3 ++ [sEnd w]))) (lwE w L ci cm ch cc)) Q NoE ⟨h, g, d, t, os⟩ := by
  obtain ⟨dn, hi, hd, ecut, heq⟩ := nk_cut (tz := tz) (B := B) (n := n) H ehf emd
  generalize eI : fstI (ctV l tz B n) hf md (md + 1).toNat = i at *
  refine execs_append ?_
  refine s7_all (by rw [ehf, emd]; exact nk_flok H) D.base hT (Nat.le_trans hn D.size) (D.outs hn hx) ht ?_
  intro h1 t1 a rs e ti td E1 hT1 ht1
  rw [eI, ecut] at E1
  have D1 : Lg xs h₀ h1 (lg8 w sc Z L K k0 k1 k2 k3 k4 X tX (sL l) tE ++ ((K, liS (.ref a :: rs) e) :: [(cm, celI md tm), (a, tup2 (i : Nat) (dn : Nat) ti td), (Z, oz), (sc, osc), (16, tabA w)])) :=
    (D.frame E1).pickK [0, 2, 1, 3, 4, 5, 6] (by decide +kernel) (by kernel_rfl) (by kernel_rfl)
  refine execs_append ?_
  refine st8 D1 hT1 hn hx ht1 ?_
  intro h2 t2 D2 hT2 ht2
  have D2p : Lg xs h₀ h2 (lgV9 w sc Z L K a cm k0 k1 k2 k3 k4 X tX (sL l) tE rs e (i : Nat) (dn : Nat) md ti td tm ++ [(Z, oz), (sc, osc)]) :=
    D2.pickK [0, 2, 1, 3, 6, 4, 5] (by decide +kernel) (by kernel_rfl) (by kernel_rfl)
  refine execs_append ?_
  refine s9_all (fun tk hk => by rw [emd]; exact facts9_ok H htE hi hd tk hk) D2p.base hT2 (Nat.le_trans hn D2p.size) (D2p.outs hn hx) ht2 ?_
  intro h3 t3 k O k5 k6 k7 k8 m u1 u2 B2 n2 eo hk E3 hT3 ht3
  have D3 := D2p.frame E3
  refine st12 hk (fun tk hk => by rw [emd]; exact factsW_ok H htE hi hd tk hk) (fun v1 v2 v3 v4 => by rw [emd]; exact H.same hi hd heq _ _ _ _ _ _) D3.base hT3 (Nat.le_trans hn D3.size) (D3.outs hn hx) ht3 ?_
  intro h4 t4 E4 ht4
  have D4 : Lg xs h₀ h4 [(sc, osc), (16, growO (tabA w) m)] := (D3.frame E4).pickK [2, 0] (by decide +kernel) (by kernel_rfl) (by kernel_rfl)
  exact hq h4 t4 m D4
theorem law_all (w : World) (sc : Addr) (n : Nat) (hn63 : n ≤ 63) (x : Nat → Int) (tx : Nat → Nat) (e : Nat) {h : Heap} {g : Array GenState} {d : Drawn} {t : Nat} {os : OsState} (hT : TopOf (ktA w) h) (hn : 111 ≤ h.objs.size) (ht : 1 ≤ t)
    (L0 : Lg [sc, 16] h h [(sc, liS (scV n x tx) e), (16, tabA w)]) (hx : ∀ a ∈ [sc, 16], (ktA w).get a = none) :
    codeAny (model pr w) (An 400 4000) (.call (.ref 110) ⟨[.ref sc], []⟩) (LwR w sc (liS (scV n x tx) e) h g d os) ⟨h, g, d, t, os⟩ := by
  refine lw_start w sc (scV n x tx) e hT hn ht L0 hx ?_
  intro h1 t1 k0 L ci cm ch cc D1 hT1 ht1 hk0
  rw [body_eq]
  refine execs_append ?_
  refine s0_all hn63 D1 hT1 hn hx ht1 ?_
  intro m X h2 t2 k1 k2 tz tX Z hm1 hm4 htX D2 hT2 ht2
  have D2p : Lg [sc, 16] h h2 (lgB w sc Z L cc k0 k1 k2 (shS m X) tX ++ [(sc, liS (scV n x tx) e), (16, tabA w), (ch, celN), (cm, celN), (ci, celN), (Z, liS (numV2 m X tz) m)]) :=
    D2.pickK [2, 3, 0, 1, 4, 5, 6, 7] (by decide +kernel) (by kernel_rfl) (by kernel_rfl)
  refine execs_append ?_
  refine s2_all (by rw [shS_len]; omega) (by rw [shS_len]; omega) (sh_small m X) D2p.base hT2 (Nat.le_trans hn D2p.size) (D2p.outs hn hx) ht2 ?_
  intro h3 t3 C tzc B nB htzc E3 hT3 ht3
  unfold lgB' at E3
  rw [filL_sgL] at E3
  have D3p : Lg [sc, 16] h h3 (lgD w sc Z L k0 k1 k2 (shS m X) tX m X tz ++ [(cc, celR C), (C, liS (ctV (evenL (sgL m X)) tzc B nB) 0), (sc, liS (scV n x tx) e), (16, tabA w), (ch, celN), (cm, celN), (ci, celN)]) :=
    (D2p.frame E3).pickK [0, 8, 1, 2, 3, 4, 5, 6, 7] (by decide +kernel) (by kernel_rfl) (by kernel_rfl)
  refine execs_append ?_
  refine s3_all hm1 hm4 D3p.base hT3 (Nat.le_trans hn D3p.size) (D3p.outs hn hx) ht3 ?_
  intro h4 t4 k3 tE htE E4 hT4 ht4
  have D4 := D3p.frame E4
  have H := nk_of m X hm4
  unfold lgD' at D4
  generalize evenL (sgL m X) = l at D4 H
  have D4p : Lg [sc, 16] h h4 (lgE w sc Z L C ci cm ch cc k0 k1 k2 k3 (shS m X) tX (sL l) tE (ctV l tzc B nB) ++ [(Z, liS (numV2 m X tz) m), (sc, liS (scV n x tx) e), (16, tabA w), (ci, celN)]) :=
    D4.pickK [0, 2, 3, 6, 7, 1, 4, 5, 8] (by decide +kernel) (by kernel_rfl) (by kernel_rfl)
  have hlen := H.len
  have eE : (sL l).cps.toList = l := rfl
  obtain ⟨hLast, eLast⟩ := ctV_last l tzc B nB
  refine execs_append ?_
  refine s4_all (by rw [ctV_len, eE]) (by rw [eE]; omega) hLast D4p.base hT4 (Nat.le_trans hn D4p.size) (D4p.outs hn hx) ht4 ?_
  intro h5 t5 K k4 th tm _ _ E5 hT5 ht5
  have D5p : Lg [sc, 16] h h5 (lgV7 w sc Z L C K ci cm ch cc k0 k1 k2 k3 k4 (shS m X) tX (sL l) tE (ctV l tzc B nB) (hlf (lastI (ctV l tzc B nB))) (hlf (.ofNat (sL l).cps.toList.length)) th tm ++ [(Z, liS (numV2 m X tz) m), (sc, liS (scV n x tx) e), (16, tabA w)]) :=
    (D4p.frame E5).pickK [0, 1, 2, 3, 4, 5, 9, 6, 7, 8] (by decide +kernel) (by kernel_rfl) (by kernel_rfl)
  exact law_rest H htE (by rw [eLast]; exact hlf_nat _) (by rw [eE]; exact hlf_nat _) D5p hT5 hn hx ht5 fun h' t' m1 D6 => ⟨rfl, h', t', m1, rfl, D6⟩
end Mine
end
section
open PySem PySem.W PyProof.Rows PySem.W.X Mine
set_option Elab.async false
set_option maxRecDepth 100000
set_option maxHeartbeats 0
set_option linter.unusedVariables false
namespace Mine
theorem ints_get : ∀ {vs : List Value} {xs : List Int}, IntsAre vs xs → vs = (List.range xs.length).map fun i => .int (xs.getD i 0) (pI (vs.getD i .none)).2
  | _, _, .nil => rfl
  | _, _, .cons (vs := vs) (ns := ns) n t r => by
    have ih := ints_get r
    rw [List.length_cons, List.range_succ_eq_map, List.map_cons, List.map_map]
    refine congr (congrArg List.cons rfl) ?_
    exact ih
theorem grow_arr (o : Obj) (m : List Value) : growO o m = { o with data := .fields ((⟨fiDrop o 0⟩ : Array Value) ++ (⟨m⟩ : Array Value)) } := by
  unfold growO
  congr 1
  congr 1
  simp
noncomputable def kO (w : World) (a : Nat) : Obj := ((hz2.ktop_259 w.params).get a).getD default
theorem kO_get (w : World) (a : Nat) (h : ((hz2.ktop_259 w.params).get a).isSome = true) : (hz2.ktop_259 w.params).get a = some (kO w a) := by
  unfold kO
  cases e : (hz2.ktop_259 w.params).get a with
  | none => rw [e] at h; cases h
  | some o => rfl
theorem tab_is {w : World} {h : Heap} (ZH : KT.Holds h 1 0 (hz2.ktop_259 w.params)) (c b : Nat) (hs : ((hz2.ktop_259 w.params).get c).isSome = true) (h1 : (kO w c).cls = .type "code") (h2 : (kO w c).data = .fields ⟨fiDrop (kO w c) 0⟩) (h3 : (⟨fiDrop (kO w c) 0⟩ : Array Value)[11]? = some (.ref b)) : isCodeTable h b :=
  ⟨c, kO w c, _, kt_at ZH (kO_get w c hs), h1, h2, h3⟩
theorem oldK_of {w : World} {h h' : Heap} {osc : Obj} {m1 : List Value} (ZH : KT.Holds h 1 0 (hz2.ktop_259 w.params)) (hsc : h.get? 111 = some osc) (D : Lg [111, 16] h h' [(111, osc), (16, growO (tabA w) m1)]) : OldK h h' := by
  have g16 : h.get? 16 = some (tabA w) := kt_at ZH (by kernel_rfl)
  have k0 : h'.get? 111 = some osc := D.get _ (.head _)
  have k1 : h'.get? 16 = some (growO (tabA w) m1) := D.get _ (.tail _ (.head _))
  refine ⟨fun b o e => ?_, fun b o e => ?_⟩
  · by_cases q0 : b = 111
    · subst q0
      rw [hsc] at e
      cases e
      exact .inl k0
    by_cases q1 : b = 16
    · subst q1
      rw [g16] at e
      cases e
      refine .inr (.inl ⟨tab_is ZH 20 16 (by kernel_rfl) (by kernel_rfl) (by kernel_rfl) (by kernel_rfl), by kernel_rfl, ⟨fiDrop (tabA w) 0⟩, ⟨m1⟩, by kernel_rfl, ?_⟩)
      rw [k1, grow_arr]
    exact .inl (D.keep b o e (by simp [q0, q1]))
  · by_cases q0 : b = 111
    · exact ⟨_, q0 ▸ k0⟩
    by_cases q1 : b = 16
    · exact ⟨_, q1 ▸ k1⟩
    exact ⟨o, D.keep b o e (by simp [q0, q1])⟩
theorem top_of {w : World} {h : Heap} (ZH : KT.Holds h 1 0 (hz2.ktop_259 w.params)) : TopOf (ktA w) h := by
  have T : TopOf (hz2.ktop_259 w.params) h := fun a o e => kt_at ZH e
  exact ktDel_sub T
theorem law_top {w : World} {s : Shared} {vs : List Value} {xs : List Int} {e : Nat} {c : ClaimW} {cl : Str → Option Addr} {mean : ExcName → Option Value} {args : List WData} (hI : IntsAre vs xs) (hlen : xs.length ≤ 63) (hsc : s.heap.get? 111 = some (liS vs e)) (ZH : KT.Holds s.heap 1 0 (hz2.ktop_259 w.params)) (hsz : 111 ≤ s.heap.objs.size) (ht : 1 ≤ s.toks) (hg : s.gens = #[])
    (hr : ∀ cls, c.raises args cls = false) (hp : c.post args (.bool true) args = true) :
    wpAny (model pr w) callerA (call (.ref 110) [.ref 111]) (fun v s' => GoodWG c cl mean args s (.ok (.ret v)) s') (fun e s' => GoodWG c cl mean args s (.error e) s') s := by
  refine enter_call ?_
  rw [ints_get hI] at hsc
  have hT := top_of ZH
  have L0 : Lg [111, 16] s.heap s.heap [(111, liS (scV xs.length (fun i => xs.getD i 0) fun i => (pI (vs.getD i .none)).2) e), (16, tabA w)] := by
    refine ⟨Nat.le_refl _, fun _ _ e _ => e, fun p hp => ?_, (show [111, 16].Nodup by decide), fun p hp => .inl (List.mem_map_of_mem (f := (·.1)) hp)⟩
    simp only [List.mem_cons, List.not_mem_nil, or_false] at hp
    rcases hp with rfl | rfl
    · exact hsc
    · exact kt_at ZH (by kernel_rfl)
  have hx : ∀ a ∈ [111, 16], (ktA w).get a = none := by
    intro a ha
    simp only [List.mem_cons, List.not_mem_nil, or_false] at ha
    rcases ha with rfl | rfl
    · exact ktBound_none (ktA_bound w) (Nat.le_refl _)
    · show (ktDel _ 16).get 16 = none
      rw [ktDel_get]
      rfl
  obtain ⟨h, g, d, t, os⟩ := s
  have hg' : g = #[] := hg
  refine code_An (d := 400) (u := 4000) rfl (Nat.le_of_ble_eq_true (by kernel_rfl)) (Nat.le_of_ble_eq_true (by kernel_rfl)) ?_
  refine codeAny_mono (law_all w 111 xs.length hlen (fun i => xs.getD i 0) (fun i => (pI (vs.getD i .none)).2) e hT hsz ht L0 hx) ?_
  intro r s' q
  obtain ⟨rfl, h', t', m1, rfl, D⟩ := q
  exact ⟨.inl ⟨_, _, [], rfl, hr, ReadsW.bool true, hp, fun _ => ⟨List.nodup_nil, fun _ hm => nomatch hm⟩⟩, oldK_of ZH hsc D, rfl, .of_eq hg'⟩
end Mine
end
section
open PySem PySem.W PyProof.Rows PySem.W.X
set_option Elab.async false
set_option maxRecDepth 100000
set_option maxHeartbeats 0
theorem PySem.Challenge.cw_oy0085_02_holds : PySem.Challenge.rw_oy0085_02.Holds := by
  refine hz2 ?_
  k_fill
  intro w s₀ s₁ mg mb G y fa o pm cd doc dV kV ho hd hcd hD hmg hg args vals as L hpre hlay hrd hwl hlo
  z_open y L KX ZH ZN ZT
  refine Ground.open G ?_
  intro T B D TE TW
  wrow_args hpre hlay hrd hwl hlo
  obtain ⟨hat, hsz⟩ := script_at L
  have htk := script_toks L ZT
  rw [ZN] at hat hsz
  subst hat
  x_fa T KX hmg
  rename_i hI _ hlen _ hL _ _
  exact Mine.law_top hI (by omega) (script_obj L hL) ZH (by rw [hsz]; exact Nat.le_of_ble_eq_true rfl) (Nat.le_trans (Nat.le_of_ble_eq_true rfl) htk) hg (fun _ => rfl) (by first | rfl | wrow_post)
end
