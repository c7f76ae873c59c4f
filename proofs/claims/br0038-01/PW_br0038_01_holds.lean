import PyProof.Rows.All
import PyProof.ToksMono
import PyProof.StrReplace2
import Wide.FinOn
import OpenK.AllK
import Wide.All
import PySem.Challenge.RW_br0038_01
set_option Elab.async false
set_option maxRecDepth 100000
namespace Mine
section
open PySem PySem.W PyProof.Rows
theorem sor_float : ∀ I : Fin 18, ∀ S : Fin 40, S.val ≠ 0 → Float64.div (Float64.mul (Float64.ofInt 2) (Float64.ofInt I.val)) (Float64.ofInt S.val) = Float64.ofFrac false (2 * I.val) S.val := by
  decide +kernel

end

open PySem PySem.W PyProof.Rows
set_option maxHeartbeats 0
def sysSeen (s : Shared) : Bool := match s.heap.get? 1 with
  | some ⟨.type _, _, _, _⟩ => true
  | _ => false
theorem sysSeen_of {s : Shared} (h : sysSeen s = true) : ∃ o, s.heap.get? 1 = some o ∧ o.cls ≠ .none := by
  unfold sysSeen at h
  split at h
  · rename_i e; exact ⟨_, e, fun q => by cases q⟩
  · cases h
def notBooked (s : Shared) : Bool := match s.heap.get? cStatics with
  | some o => match o.data with
    | .dict es _ => es.toList.all (fun e => match e.key with | .str .. => true | _ => false) && (nsFind es sharingNotToldKey).isNone
    | _ => false
  | none => false
theorem notBooked_of {s : Shared} (h : notBooked s = true) : NoneBooked s.heap := by
  unfold notBooked at h
  split at h
  · rename_i o ho
    split at h
    · rename_i es ep hd
      rw [Bool.and_eq_true, List.all_eq_true] at h
      refine ⟨nsFind es, ⟨o, es, ep, ho, hd, fun e he => ?_, fun _ => rfl⟩, ?_⟩
      · have := h.1 e (Array.mem_toList_iff.mpr he)
        split at this
        · rename_i n t hk; exact ⟨n, t, hk⟩
        · cases this
      · have := h.2
        simpa using this
    · cases h
  · cases h
/-- what the walk asks of the top: the written objects, two empty tables of codes, sys.modules -/
def tHook (K : Params → Frag) (as : List Addr) (e : ∀ P, as = (K P).map (·.1)) (_ : Unit) : Hook where
  α := List (Option Obj) × List (Option Obj) × Bool × Bool
  obs := fun s => (as.map s.heap.get?, [167, 296].map s.heap.get?, sysSeen s, notBooked s)
  val := fun w => ((K w.params).map fun p => some p.2, [some (tabObj #[]), some (tabObj #[])], true, true)
  says := fun w h => InK K w h ∧ (h.get? 167 = some (tabObj #[]) ∧ h.get? 296 = some (tabObj #[])) ∧ (∃ o, h.get? 1 = some o ∧ o.cls ≠ .none) ∧ NoneBooked h
  of := fun w s x => ⟨InK.of e w s (Prod.mk.inj x).1, by
    have y := (Prod.mk.inj (Prod.mk.inj x).2).1
    simp only [List.map_cons, List.map_nil, List.cons.injEq, and_true] at y
    exact y, sysSeen_of (Prod.mk.inj (Prod.mk.inj (Prod.mk.inj x).2).2).1, notBooked_of (Prod.mk.inj (Prod.mk.inj (Prod.mk.inj x).2).2).2⟩
  keeps := fun w h h' x k => ⟨InK.keeps w h h' x.1 k, ⟨k _ _ x.2.1.1, k _ _ x.2.1.2⟩, (let ⟨o, a, b⟩ := x.2.2.1; ⟨o, k _ _ a, b⟩), (let ⟨mc, ⟨o, es, ep, a, r⟩, q⟩ := x.2.2.2; ⟨mc, ⟨o, es, ep, k _ _ a, r⟩, q⟩)⟩
theorem tHook_says {K : Params → Frag} {as : List Addr} {e : ∀ P, as = (K P).map (·.1)} {w : World} {h : Heap} (Y : (tHook K as e ()).says w h) : (K w.params).In h ∧ (h.get? 167 = some (tabObj #[]) ∧ h.get? 296 = some (tabObj #[])) ∧ (∃ o, h.get? 1 = some o ∧ o.cls ≠ .none) ∧ NoneBooked h := Y
local macro_rules | `(tactic| o_head ($_f:ident $k $a $e)) => `(tactic| o_head (tHook $k $a $e ()))
open_top hd for PySem.Challenge.rw_br0038_01

section
open PySem PySem.W PySem.Calls PyProof.Rows PySem.Builtin PySem.Builtin.ObjectAttr
set_option maxHeartbeats 4000000
noncomputable abbrev KF (w : World) : Frag := hd.heap_39 w.params
abbrev CTR : Addr := 74
abbrev ctrO (dx : Addr) (es : Array DictEntry) (n : Nat) : Obj := { cls := .ref CTR, dict := some dx, data := .dict es n }
theorem k_init (w : World) : findIn (KF w) (.ref CTR) "__init__" = some (some (.ref 37)) := by kernel_rfl
theorem k_fn37 (w : World) : typeIn (KF w) (.ref 37) = some (.type "function") := by kernel_rfl
theorem k_call (w : World) : specialIn (KF w) (.ref CTR) "__call__" = some (some (.builtin "type.__call__")) := by kernel_rfl
theorem k_type (w : World) : instIn (KF w) (.ref CTR) (.type "type") = some true := by kernel_rfl
theorem k_subself (w : World) : mroIn (KF w) CTR (.ref CTR) = some true := by kernel_rfl
theorem k_subdict (w : World) : mroIn (KF w) CTR (.type "dict") = some true := by kernel_rfl
theorem k_isty (w : World) : ∃ oc od cd sl, (KF w).lookup CTR = some ⟨oc, od, .cls cd, sl⟩ ∧ cd.mro = [.ref CTR, .type "dict", .type "object"] ∧ cd.abstract = false ∧ cd.hasDel = false ∧ (sl[4]?).join = some (.builtin "dict.__new__") := ⟨_, _, _, _, rfl, rfl, rfl, rfl, rfl⟩
theorem kindDN : builtinKind "dict.__new__" = some .builtinFn := by decide +kernel
theorem splitDN : splitId "dict.__new__" = some ("dict", "__new__") := by decide +kernel
theorem rowDN : Manifest.signature? "dict.__new__" = some ⟨.any, "dict", "dict", .cls, [⟨"args", .varPos, false⟩, ⟨"kwargs", .varKw, false⟩]⟩ := by kernel_rfl

structure MakesD (M : Model) (h : Heap) : Prop where
  obj : ∃ oc od cd sl, h.get? CTR = some ⟨oc, od, .cls cd, sl⟩ ∧ cd.abstract = false ∧ cd.hasDel = false ∧ cd.mro = [.ref CTR, .type "dict", .type "object"]
  made : Looks M h (Bind.madeBy (.ref CTR)) (some "dict.__new__")
  base : Looks M h (Bind.staticBase (.ref CTR)) (.ref CTR)
  self : Looks M h (isSubtype (.ref CTR) (.ref CTR)) true
  dict : Looks M h (isSubtype (.ref CTR) (.type "dict")) true
  call : Looks M h (specialOf (.ref CTR) "__call__") (some (.builtin "type.__call__"))
  typ : Looks M h (isInstance (.ref CTR) (.type "type")) true
theorem makesD_of {w : World} {M : Model} {h : Heap} (X : (KF w).In h) : MakesD M h := by
  obtain ⟨oc, od, cd, sl, ho, e4, e1, e2, e3⟩ := k_isty w
  have hc : clsIn (KF w) CTR = some cd := by unfold clsIn; rw [ho]
  have hm : Looks M h (mroOf (.ref CTR)) cd.mro := (looks_clsIn X hc).andThen .now
  have made : Looks M h (Bind.madeBy (.ref CTR)) (some "dict.__new__") := by
    intro A Q E s k q
    unfold Bind.madeBy
    refine wpAny_bind (hm A _ E s k ?_)
    rw [e4, List.forIn_cons]
    refine wpAny_bind (wpAny_bind (wpAny_bind (wpAny_bind (wpAny_loadPart (k _ _ (X _ _ ho)) (wpAny_pure ?_)))))
    dsimp only
    rw [e3]
    exact wpAny_pure (wpAny_pure (wpAny_pure q))
  refine ⟨⟨oc, od, cd, sl, X _ _ ho, e1, e2, e4⟩, made, ?_, looks_mroIn X (k_subself w), looks_mroIn X (k_subdict w), looks_specialIn X (k_call w), looks_instIn X (k_type w)⟩
  intro A Q E s k q
  unfold Bind.staticBase
  refine wpAny_bind (hm A _ E s k ?_)
  rw [e4, List.forIn_cons]
  exact wpAny_bind (wpAny_bind (wpAny_bind (made A _ E s k (wpAny_pure (wpAny_pure (wpAny_pure q))))))

section
variable {prog : Program} {w : World} {A : Around} {R : Result → Shared → Prop} {h : Heap} {g : Array GenState} {d : Drawn} {t : Nat} {os : OsState}
theorem newD {rest : List Value} (Y : MakesD (model prog w) h)
    (hq : R (.ok (.ret (.ref (h.objs.size + 1)))) ⟨(h.push emptyDict).push (ctrO h.objs.size #[] 0), g, d, t, os⟩) :
    codeAny (model prog w) A (.call (.builtin "dict.__new__") ⟨.ref CTR :: rest, []⟩) R ⟨h, g, d, t, os⟩ := by
  obtain ⟨⟨oc, od, cd, sl, hC, e1, e2, e4⟩, made, base, self, dict, call, typ⟩ := Y
  refine codeAny_call_builtin_code (Code.quiet_builtin _ (by decide +kernel)) ?_
  simp only [checkBuiltinCall, kindDN, splitDN, rowDN]
  have isT : Looks (model prog w) h (isType (.ref CTR)) true := (Looks.ld hC).andThen .now
  have mro : Looks (model prog w) h (mroOf (.ref CTR)) cd.mro := ((Looks.ld (part := none) hC).andThen .now).andThen .now
  have args : Bind.checkArgs "dict.__new__" ⟨.any, "dict", "dict", .cls, [⟨"args", .varPos, false⟩, ⟨"kwargs", .varKw, false⟩]⟩ ⟨.ref CTR :: rest, []⟩ = pure () := by kernel_rfl
  rw [args]
  repeat (first | simp only [Bool.not_true, bne_self_eq_false, Bool.false_eq_true, if_false] | lk)
  refine codeAny_builtin PySem.F.kt_entry_dict_new ?_
  unfold Builtin.«dict.__new__»
  have fin : ∀ A', wpAny (model prog w) A' (do ret (← newObj (.ref CTR) (.dict #[]) (some (← alloc { cls := .type "dict", data := .dict #[] })))) (fun fin s' => match fin with | .done f => R (.ok f) s' | .again c' => c'.quiet = true ∧ codeAny (model prog w) A c' R s') (fun e s' => R (.error e) s') ⟨h, g, d, t, os⟩ := by
    intro A'
    refine wpAny_bind (wpAny_alloc (wpAny_bind ?_))
    unfold newObj
    dsimp only
    rw [if_neg (by decide)]
    show wpAny _ _ (newObjAsIs _ _ _) _ _ _
    unfold newObjAsIs classHasDel
    refine wpAny_bind (wpAny_alloc (wpAny_bind (wpAny_bind (wpAny_load (Heap.get?_push_of_some _ (Heap.get?_push_of_some _ hC)) (wpAny_pure ?_)))))
    rw [e2]
    refine wpAny_pure (wpAny_pure ?_)
    show R _ _
    rw [Heap.size_push]
    exact hq
  repeat (first | exact fin _ | simp only [Bool.not_true, bne_self_eq_false, Bool.false_eq_true, if_false] | lk)
  rw [e4]
  repeat (first | exact fin _ | simp only [Bool.not_true, bne_self_eq_false, Bool.false_eq_true, if_false] | lk)
theorem makeD_core {rest : List Value} {init : Value} (Y : MakesD (model prog w) h) (hi : Looks (model prog w) h (typeLookup (.ref CTR) "__init__") (some init))
    (hb : ∀ self, Looks (model prog w) h (bindSpecial init self) (init, [self]))
    (hq : codeAny (model prog w) (A.under (.builtin "type.__call__" ⟨.ref CTR :: rest, []⟩)) (.call init ⟨.ref (h.objs.size + 1) :: rest, []⟩) (InitBack (h.objs.size + 1) R) ⟨(h.push emptyDict).push (ctrO h.objs.size #[] 0), g, d, t, os⟩) :
    codeAny (model prog w) A (.call (.ref CTR) ⟨rest, []⟩) R ⟨h, g, d, t, os⟩ := by
  have Y' := Y
  obtain ⟨⟨oc, od, cd, sl, hC, e1, e2, e4⟩, made, base, self, top, call, typ⟩ := Y
  refine codeAny_of_tree ?_
  show wpAny _ _ (callAny (.ref CTR) _) _ _ _
  refine nd_load hC ?_
  show wpAny _ _ (callAny.viaDunder (.ref CTR) _) _ _ _
  unfold callAny.viaDunder
  refine wpAny_bind (call.at ?_)
  dsimp only
  rw [tc_bind]
  refine wpAny_bind (wpAny_pure (wpAny_bind (wpAny_pure ?_)))
  refine wpAny_pure (a := Fin.again (.call (.builtin "type.__call__") ⟨.ref CTR :: rest, []⟩)) (And.intro rfl ?_)
  refine codeAny_call_builtin_at (Code.quiet_builtin _ (by decide +kernel)) entry_typeCall (@check_slot _ _ _ _ _ _ _ _ _ _ _ tc_kind tc_split typ (tc_args _ _ _) ?_)
  unfold Builtin.«type.__call__»
  have hm : Looks (model prog w) h (mroOf (.ref CTR)) cd.mro := ((Looks.ld (part := none) hC).andThen .now).andThen .now
  have e4' : cd.mro.isEmpty = false := by rw [e4]; rfl
  repeat (first | simp only [e4', Bool.false_eq_true, if_false] | with_reducible refine wpAny_call ?_ | lk)
  refine newD Y' ?_
  have k : ∀ b o, h.get? b = some o → ((h.push emptyDict).push (ctrO h.objs.size #[] 0)).get? b = some o := fun b o e => Heap.get?_push_of_some _ (Heap.get?_push_of_some _ e)
  have hx : ((h.push emptyDict).push (ctrO h.objs.size #[] 0)).get? (h.objs.size + 1) = some (ctrO h.objs.size #[] 0) := by heap_get
  have t1 : Looks (model prog w) ((h.push emptyDict).push (ctrO h.objs.size #[] 0)) (typeOf (.ref (h.objs.size + 1))) (.ref CTR) := (Looks.ld hx).andThen .now
  have s1 := self.keeps k
  have i1 := hi.keeps k
  have b1 := (hb (.ref (h.objs.size + 1))).keeps k
  unfold isInstance callSpecial? specialOf
  repeat (first | with_reducible refine wpAny_call ?_ | lk)
  refine codeAny_mono hq fun r s' z => ?_
  rcases r with e | (v | _ | _ | _) <;> first | exact z | exact z.elim | skip
  obtain ⟨rfl, z⟩ := z
  exact wpAny_pure (wpAny_pure z)
end
section
variable {prog : Program} {w : World} {A : Around} {E : Value → Shared → Prop} {x : Addr} {s : Shared} {h₀ : Heap} {L : Addr} {m : Str → Option Value} {news : List (Addr × Obj)} {Q : Value → Shared → Prop}
theorem call_ctr {rest : List Value} (F : Fr h₀ L s.heap m) (N : News h₀ L s.heap news) (X : (KF w).In h₀)
    (h : ∀ x dx h', Fr h₀ L h' m → News h₀ L h' ((x, ctrO dx #[] 0) :: (dx, dictOf [] 0) :: news) → (∀ p ∈ news, p.1 < dx) → dx < x →
      codeAny (model prog w) (A.under (.builtin "type.__call__" ⟨.ref CTR :: rest, []⟩)) (.call (.ref 37) ⟨.ref x :: rest, []⟩) (InitBack x fun r s' => match r with | .ok (.ret v) => Q v s' | .ok _ => False | .error e => E e s') { s with heap := h' }) :
    wpAny (model prog w) A (call (.ref CTR) rest) Q E s := by
  refine wpAny_call ?_
  obtain ⟨hh, g, d, t, os⟩ := s
  have X' : (KF w).In hh := X.keeps F.keep
  refine makeD_core (makesD_of X') (looks_findIn X' (k_init w)) (fun self => bind_fn X' self (k_fn37 w)) (h _ hh.objs.size _ ((F.push _).push _) ?_ (fun p hp => Heap.lt_size (N p hp).1) (Nat.lt_succ_self _))
  have := (N.push F emptyDict).push (F.push _) (ctrO hh.objs.size #[] 0)
  rwa [Heap.size_push] at this
end

end

section
open PySem PySem.W PySem.Calls PyProof.Rows
set_option maxHeartbeats 4000000
/-- a dict's rows bear the ints of c -/
inductive Ents : List DictEntry → List (Int × Int) → Prop
  | nil : Ents [] []
  | cons {k v : Int} {t u : Tok} {es : List DictEntry} {c : List (Int × Int)} : Ents es c → Ents (⟨hashInt k, .int k t, .int v u⟩ :: es) ((k, v) :: c)
def cget : List (Int × Int) → Int → Option Int
  | [], _ => none
  | (a, b) :: r, k => if a = k then some b else cget r k
def cput : List (Int × Int) → Int → Int → List (Int × Int)
  | [], k, v => [(k, v)]
  | (a, b) :: r, k, v => if a = k then (a, v) :: r else (a, b) :: cput r k v
theorem Ents.length {es : List DictEntry} {c : List (Int × Int)} (h : Ents es c) : es.length = c.length := by
  induction h with
  | nil => rfl
  | cons _ ih => simp [ih]
theorem cput_length (c : List (Int × Int)) (k v : Int) : (cput c k v).length ≤ c.length + 1 := by
  induction c with
  | nil => simp [cput]
  | cons p r ih => obtain ⟨a, b⟩ := p; unfold cput; split <;> simp <;> omega
theorem Ents.keys {prog : Program} {w : World} {es : List DictEntry} {c : List (Int × Int)} (h : Ents es c) : KeysOf (intKind prog w) es.toArray := by
  intro e he
  rw [List.mem_toArray] at he
  induction h with
  | nil => cases he
  | cons _ ih =>
    rcases List.mem_cons.mp he with rfl | he
    · exact ⟨_, intKind_is _ _ _ _, rfl⟩
    · exact ih he
theorem isInt_ne {k a : Int} {t : Tok} : Value.isInt k (.int a t) = decide (a = k) := by
  unfold Value.isInt
  by_cases h : a = k <;> simp [h]
theorem Ents.find {es : List DictEntry} {c : List (Int × Int)} (h : Ents es c) (k : Int) :
    (∃ i v u, es.findIdx? (fun e => Value.isInt k e.key) = some i ∧ cget c k = some v ∧ (es[i]?).map (·.val) = some (.int v u) ∧ ∀ x tk, Ents (es.modify i fun e => { e with val := .int x tk }) (cput c k x)) ∨
    (es.findIdx? (fun e => Value.isInt k e.key) = none ∧ cget c k = none ∧ ∀ x t tk, Ents (es ++ [⟨hashInt k, .int k t, .int x tk⟩]) (cput c k x)) := by
  induction h with
  | nil => exact .inr ⟨rfl, rfl, fun x t tk => .cons .nil⟩
  | cons hr ih =>
    rename_i a b t u es c
    rw [List.findIdx?_cons]
    dsimp only
    rw [isInt_ne]
    by_cases hk : a = k
    · subst hk
      refine .inl ⟨0, b, u, by simp, by simp [cget], rfl, fun x tk => ?_⟩
      simp only [List.modify_zero_cons, cput, if_true]
      exact .cons hr
    · rcases ih with ⟨i, v, u', h1, h2, h3, h4⟩ | ⟨h1, h2, h3⟩
      · refine .inl ⟨i + 1, v, u', by simp [hk, h1], by simp [cget, hk, h2], by simpa using h3, fun x tk => ?_⟩
        simp only [List.modify_succ_cons, cput, if_neg hk]
        exact .cons (h4 x tk)
      · refine .inr ⟨by simp [hk, h1], by simp [cget, hk, h2], fun x t tk => ?_⟩
        simp only [List.cons_append, cput, if_neg hk]
        exact .cons (h3 x t tk)
section
variable {prog : Program} {w : World} {A : Around} {E : Value → Shared → Prop} {s : Shared} {d : Addr} {o : Obj} {es : List DictEntry} {n : Nat} {c : List (Int × Int)} {k : Int} {t : Tok}
theorem dget {Q : Option Value → Shared → Prop} (ho : s.heap.get? d = some o) (hd : o.data = .dict es.toArray n) (he : Ents es c)
    (hQ : ∀ r : Option Value, (match cget c k with | some v => ∃ u, r = some (.int v u) | none => r = none) → Q r { s with toks := s.toks + 1 }) :
    wpAny (model prog w) A (dictGet d (.int k t)) Q E s := by
  unfold dictGet
  refine wpAny_holding ?_
  refine wpAny_bind ((intKind prog w).pyHash (intKind_is _ _ k t) (wpAny_bind (wpAny_dictFind_of (s := { s with toks := s.toks + 1 }) (intKind_is prog w k t) ho hd he.keys ?_)))
  rw [List.findIdx?_toArray]
  rcases he.find k with ⟨i, v, u, h1, h2, h3, _⟩ | ⟨h1, h2, _⟩
  · rw [show List.findIdx? (fun e : DictEntry => (intKind prog w).is k e.key) es = some i from h1]
    refine wpAny_bind (wpAny_dictEntries (s := { s with toks := s.toks + 1 }) ho hd (wpAny_pure (hQ _ ?_)))
    rw [h2, List.getElem?_toArray, h3]
    exact ⟨u, rfl⟩
  · rw [show List.findIdx? (fun e : DictEntry => (intKind prog w).is k e.key) es = none from h1]
    refine wpAny_pure (hQ _ ?_)
    rw [h2]
theorem dset {Q : Unit → Shared → Prop} {v : Int} {u : Tok} (ho : s.heap.get? d = some o) (hd : o.data = .dict es.toArray n) (he : Ents es c) (hz : c.length ≤ 1000)
    (hQ : ∀ h' o' es' n', h'.get? d = some o' → o'.data = .dict es'.toArray n' → o'.cls = o.cls → o'.dict = o.dict → o'.slots = o.slots → Ents es' (cput c k v) → Heap.SameBut d s.heap h' → Q () { s with heap := h', toks := s.toks + 1 }) :
    wpAny (model prog w) A (dictSet d (.int k t) (.int v u)) Q E s := by
  obtain ⟨oc, od, dt, sl⟩ := o
  dsimp only at hd; subst hd
  unfold dictSet
  refine wpAny_holding ?_
  refine wpAny_bind ((intKind prog w).pyHash (intKind_is _ _ k t) ?_)
  unfold dictSetHashed
  refine wpAny_holding ?_
  refine wpAny_bind (wpAny_dictFind_of (s := { s with toks := s.toks + 1 }) (intKind_is prog w k t) ho rfl he.keys ?_)
  rw [List.findIdx?_toArray]
  rcases he.find k with ⟨i, v', u', h1, h2, h3, h4⟩ | ⟨h1, h2, h3⟩
  · rw [show List.findIdx? (fun e : DictEntry => (intKind prog w).is k e.key) es = some i from h1]
    refine wpAny_bind (wpAny_rule (wpAny_bind (wpAny_updateDict (s := { s with toks := s.toks + 1 }) ho rfl (wpAny_point (hQ _ _ (es.modify i fun e => { e with val := .int v u }) n (Heap.get?_update_self _ ho rfl) ?_ rfl rfl rfl (h4 v u) (Heap.SameBut.update ..))))))
    show Data.dict (es.toArray.modify i _) n = _
    rw [List.modify_toArray]
  · rw [show List.findIdx? (fun e : DictEntry => (intKind prog w).is k e.key) es = none from h1]
    have hl := he.length
    refine wpAny_bind (wpAny_rule (wpAny_updateDictKeys (hz := by rw [List.size_toArray, sizeLine_eq]; omega) (s := { s with toks := s.toks + 1 }) ho rfl (hQ _ _ (es ++ [⟨hashInt k, .int k t, .int v u⟩]) (n + 1) (Heap.get?_update_self _ ho rfl) ?_ rfl rfl rfl (h3 v t u) (Heap.SameBut.update ..))))
    show Data.dict (es.toArray.push _) (n + 1) = _
    rw [List.push_toArray]
    rfl
end

end

section
open PySem PySem.W PySem.Calls PyProof.Rows
set_option maxHeartbeats 4000000
/-- the class: Counter, or dict itself -/
def dcls : Bool → Value
  | true => .ref CTR
  | false => .type "dict"
theorem kd_getitem (w : World) (b : Bool) : findIn (KF w) (dcls b) "__getitem__" = some (some (.builtin "dict.__getitem__")) := by cases b <;> kernel_rfl
theorem kd_setitem (w : World) (b : Bool) : findIn (KF w) (dcls b) "__setitem__" = some (some (.builtin "dict.__setitem__")) := by cases b <;> kernel_rfl
theorem kd_contains (w : World) (b : Bool) : findIn (KF w) (dcls b) "__contains__" = some (some (.builtin "dict.__contains__")) := by cases b <;> kernel_rfl
theorem kd_iter (w : World) (b : Bool) : findIn (KF w) (dcls b) "__iter__" = some (some (.builtin "dict.__iter__")) := by cases b <;> kernel_rfl
theorem kd_len (w : World) (b : Bool) : findIn (KF w) (dcls b) "__len__" = some (some (.builtin "dict.__len__")) := by cases b <;> kernel_rfl
theorem kd_dict (w : World) (b : Bool) : subIn (KF w) (dcls b) (.type "dict") = some true := by cases b <;> kernel_rfl
theorem kd_od (w : World) (b : Bool) : subIn (KF w) (dcls b) (.type "collections.OrderedDict") = some false := by cases b <;> kernel_rfl
theorem kd_deque (w : World) (b : Bool) : subIn (KF w) (dcls b) (.type "collections.deque") = some false := by cases b <;> kernel_rfl
theorem check_meth {M : Model} {A : Around} {E : Value → Shared → Prop} {s : Shared} {i owner n : String} {self : Value} {rest : List Value} {kw : List (Str × Value)} {Q : Unit → Shared → Prop}
    (hk : builtinKind i = some .method) (hs : splitId i = some (owner, n)) (hi : Looks M s.heap (isInstance self (.type owner)) true) (ha : argsOk i ⟨self :: rest, kw⟩) (q : Q () s) :
    wpAny M A (checkBuiltinCall i ⟨self :: rest, kw⟩) Q E s := by
  simp only [checkBuiltinCall, hk, hs]
  refine wpAny_bind (hi.here ?_)
  simp only [Bool.not_true, Bool.false_eq_true, if_false]
  cases hsig : Manifest.signature? i with
  | none => exact wpAny_pure q
  | some sig =>
    simp only [argsOk, hsig] at ha
    have h2 : Bind.checkArgs i sig ⟨self :: rest, kw⟩ = pure () := ha
    show wpAny M A (Bind.checkArgs i sig ⟨self :: rest, kw⟩) Q E s
    rw [h2]; exact wpAny_pure q
/-- a dict (or Counter) at x whose rows bear c -/
structure DAt (h : Heap) (b : Bool) (x : Addr) (o : Obj) (es : List DictEntry) (n : Nat) (c : List (Int × Int)) : Prop where
  at_ : h.get? x = some o
  cls : o.cls = dcls b
  data : o.data = .dict es.toArray n
  ents : Ents es c
  sys : (x == sysModules) = false
section
variable {prog : Program} {w : World} {A : Around} {E : Value → Shared → Prop} {s : Shared} {x : Addr} {b : Bool} {o : Obj} {es : List DictEntry} {n : Nat} {c : List (Int × Int)} {k : Int} {t : Tok}
theorem DAt.keep {h h' : Heap} (D : DAt h b x o es n c) (k : ∀ b o, h.get? b = some o → h'.get? b = some o) : DAt h' b x o es n c := ⟨k _ _ D.at_, D.cls, D.data, D.ents, D.sys⟩
theorem DAt.type {M : Model} {h : Heap} (D : DAt h b x o es n c) : Looks M h (typeOf (.ref x)) (dcls b) := D.cls ▸ (Looks.ld D.at_).andThen .now
theorem DAt.isd {M : Model} {h : Heap} (D : DAt h b x o es n c) (X : (KF w).In h) : Looks M h (isInstance (.ref x) (.type "dict")) true := D.type.andThen (looks_subIn X (kd_dict w b))
theorem DAt.special {M : Model} {h : Heap} (D : DAt h b x o es n c) (X : (KF w).In h) {name : Str} {v : Value} (e : findIn (KF w) (dcls b) name = some (some v)) : Looks M h (specialOf (.ref x) name) (some v) := D.type.andThen (looks_findIn X e)
theorem DAt.skey {M : Model} {h : Heap} (D : DAt h b x o es n c) (X : (KF w).In h) (i : Value) (name : Str) : Looks M h (sequenceKey (.ref x) i name) i := by
  unfold sequenceKey
  refine D.type.andThen ?_
  cases b with
  | false => exact Looks.of_pure (by kernel_rfl)
  | true =>
    intro A Q E s k q
    have t3 := (looks_subIn (M := M) X (kd_deque w true)).keeps k
    show wpAny _ _ ((seqItemTypes.anyM fun n => isSubtype (.ref CTR) (.type n)) >>= _) _ _ _
    unfold seqItemTypes List.anyM
    refine wpAny_bind (wpAny_bind (t3.here ?_))
    unfold List.anyM
    exact wpAny_pure (wpAny_pure q)
theorem DAt.callSpecial {id : String} {name : Str} {args : List Value} {Q : Option Value → Shared → Prop} (D : DAt s.heap b x o es n c) (X : (KF w).In s.heap) (e : findIn (KF w) (dcls b) name = some (some (.builtin id)))
    (hb : ∀ self, bindSpecial (.builtin id) self = pure (.builtin id, [self])) (h : wpAny (model prog w) A (call (.builtin id) (.ref x :: args)) (fun v => Q (some v)) E s) : wpAny (model prog w) A (callSpecial? (.ref x) name args) Q E s := by
  unfold callSpecial?
  refine wpAny_bind ((D.special X e).here (wpAny_holding ?_))
  rw [hb]
  exact wpAny_bind (wpAny_pure (wpAny_bind (wpAny_mono h (fun _ _ z => wpAny_pure z) fun _ _ z => z)))
theorem call_meth {id : String} {f : Builtin} {owner nm : String} {self : Value} {rest : List Value} {Q : Value → Shared → Prop} (hp : plainId id = true) (he : entryFor table id = some f) (hk : builtinKind id = some .method) (hs : splitId id = some (owner, nm))
    (hi : Looks (model prog w) s.heap (isInstance self (.type owner)) true) (ha : argsOk id ⟨self :: rest, []⟩)
    (h : wpAny (model prog w) A.in1 (f ⟨self :: rest, []⟩) (fun fin s' => ∃ v, fin = .done (.ret v) ∧ Q v s') E s) : wpAny (model prog w) A (call (.builtin id) (self :: rest)) Q E s := by
  refine wpAny_call (codeAny_call_builtin hp he (check_meth hk hs hi ha (wpAny_mono h ?_ fun _ _ z => z)))
  rintro fin s' ⟨v, rfl, q⟩
  exact q
theorem call_slot {id : String} {f : Builtin} {owner nm : String} {self : Value} {rest : List Value} {Q : Value → Shared → Prop} (hp : plainId id = true) (he : entryFor table id = some f) (hk : builtinKind id = some .slot) (hs : splitId id = some (owner, nm))
    (hi : Looks (model prog w) s.heap (isInstance self (.type owner)) true) (ha : argsOk id ⟨self :: rest, []⟩)
    (h : wpAny (model prog w) A.in1 (f ⟨self :: rest, []⟩) (fun fin s' => ∃ v, fin = .done (.ret v) ∧ Q v s') E s) : wpAny (model prog w) A (call (.builtin id) (self :: rest)) Q E s := by
  refine wpAny_call (codeAny_call_builtin hp he (check_slot hk hs hi ha (wpAny_mono h ?_ fun _ _ z => z)))
  rintro fin s' ⟨v, rfl, q⟩
  exact q
theorem pend_int {d : Addr} {Q : Option Str → Shared → Prop} (h : Q none s) : wpAny (model prog w) A (Builtin.Dict.pendingKey? d (.int k t)) Q E s := by
  unfold Builtin.Dict.pendingKey?
  by_cases hd : (d == sysModules) = true
  · rw [if_pos hd]; exact wpAny_bind (wpAny_pure (wpAny_pure h))
  · rw [if_neg hd]; exact wpAny_pure h
theorem missed_int {d : Addr} {Q : Option Value → Shared → Prop} (h : Q none s) : wpAny (model prog w) A (Builtin.Dict.missed d (.int k t)) Q E s := by
  unfold Builtin.Dict.missed
  by_cases hd : (d == sysModules) = true
  · rw [if_pos hd]; exact wpAny_bind (pend_int (wpAny_pure h))
  · rw [if_neg hd]; exact wpAny_pure h
theorem DAt.getItem {v : Int} {Q : Value → Shared → Prop} (D : DAt s.heap b x o es n c) (X : (KF w).In s.heap) (hv : cget c k = some v) (h : ∀ u, Q (.int v u) { s with toks := s.toks + 1 }) :
    wpAny (model prog w) A (PySem.getItem (.ref x) (.int k t)) Q E s := by
  unfold PySem.getItem
  refine wpAny_holding (wpAny_bind ((D.skey X _ _).here (wpAny_bind (D.callSpecial X (kd_getitem w b) PySem.slot_dict_getitem.bind
    (call_meth (nm := "__getitem__") PySem.slot_dict_getitem.plain PySem.entry_dict_getitem (by decide +kernel) (by decide +kernel) (D.isd X) (PySem.args_dict_getitem _ _) ?_)))))
  show wpAny _ _ (dictGet x (.int k t) >>= _) _ _ s
  refine wpAny_bind (dget D.at_ D.data D.ents fun r hr => ?_)
  rw [hv] at hr
  obtain ⟨u, rfl⟩ := hr
  exact wpAny_pure ⟨_, rfl, wpAny_pure (h u)⟩
theorem DAt.get2 {d : Int} {u : Tok} {Q : Value → Shared → Prop} (D : DAt s.heap b x o es n c) (X : (KF w).In s.heap) (h : ∀ u, Q (.int ((cget c k).getD d) u) { s with toks := s.toks + 1 }) :
    wpAny (model prog w) A (call (.builtin "dict.get") [.ref x, .int k t, .int d u]) Q E s := by
  refine call_meth (nm := "get") PySem.F.slot_dict_get.plain PySem.F.entry_dict_get (by decide +kernel) (by decide +kernel) (D.isd X) (PySem.F.args_dict_get_3 _ _ _) ?_
  unfold Builtin.«dict.get»
  have e1 : Builtin.Dict.keyAndDefault "get" ⟨[.ref x, .int k t, .int d u], []⟩ = pure (x, .int k t, some (.int d u)) := by kernel_rfl
  rw [e1]
  refine wpAny_bind (wpAny_pure (wpAny_bind (dget D.at_ D.data D.ents fun r hr => ?_)))
  cases hv : cget c k with
  | some v =>
    rw [hv] at hr h
    obtain ⟨u', rfl⟩ := hr
    exact wpAny_pure ⟨_, rfl, h u'⟩
  | none =>
    rw [hv] at hr h
    subst hr
    exact wpAny_bind (missed_int (wpAny_pure ⟨_, rfl, h u⟩))
theorem DAt.in_ {Q : Value → Shared → Prop} (D : DAt s.heap b x o es n c) (X : (KF w).In s.heap) (h : Q (.bool (cget c k).isSome) { s with toks := s.toks + 1 }) :
    wpAny (model prog w) A (contains (.ref x) (.int k t)) (fun b => Q (.bool b)) E s := by
  unfold contains
  refine wpAny_holding (wpAny_bind ((D.special X (kd_contains w b)).here ?_))
  show wpAny _ _ (if (some (Value.builtin "dict.__contains__") == some Value.none) = true then _ else _) _ E s
  rw [if_neg (by rw [beq_builtin_none]; exact Bool.false_ne_true)]
  unfold callSpecialUnlessNone?
  refine wpAny_bind (wpAny_bind ((D.special X (kd_contains w b)).here (wpAny_holding ?_)))
  rw [PySem.slot_dict_contains.bind]
  refine wpAny_bind (wpAny_pure ?_)
  dsimp only
  rw [if_neg (by decide)]
  refine wpAny_bind (call_meth (nm := "__contains__") PySem.slot_dict_contains.plain PySem.entry_dict_contains (by decide +kernel) (by decide +kernel) (D.isd X) (PySem.args_dict_contains _ _) ?_)
  show wpAny _ _ (dictGet x (.int k t) >>= _) _ _ s
  refine wpAny_bind (dget D.at_ D.data D.ents fun r hr => ?_)
  cases hv : cget c k with
  | some v =>
    rw [hv] at hr h
    obtain ⟨u', rfl⟩ := hr
    exact wpAny_pure ⟨_, rfl, wpAny_pure (wpAny_truthy_bool h)⟩
  | none =>
    rw [hv] at hr h
    subst hr
    exact wpAny_bind (pend_int (wpAny_pure ⟨_, rfl, wpAny_pure (wpAny_truthy_bool h)⟩))
theorem DAt.isIn {Q : Value → Shared → Prop} (D : DAt s.heap b x o es n c) (X : (KF w).In s.heap) (h : Q (.bool (cget c k).isSome) { s with toks := s.toks + 1 }) :
    wpAny (model prog w) A (compareOp .In (.int k t) (.ref x)) Q E s :=
  wpAny_bind (wpAny_mono (D.in_ X h) (fun _ _ z => wpAny_pure z) fun _ _ z => z)
theorem DAt.notIn {Q : Value → Shared → Prop} (D : DAt s.heap b x o es n c) (X : (KF w).In s.heap) (h : Q (.bool (!(cget c k).isSome)) { s with toks := s.toks + 1 }) :
    wpAny (model prog w) A (compareOp .NotIn (.int k t) (.ref x)) Q E s :=
  wpAny_bind (wpAny_mono (D.in_ (Q := fun v s => match v with | .bool b => Q (.bool (!b)) s | _ => True) X h) (fun _ _ z => wpAny_pure z) fun _ _ z => z)
theorem DAt.setItem {v : Int} {u : Tok} {Q : Unit → Shared → Prop} (D : DAt s.heap b x o es n c) (X : (KF w).In s.heap) (hz : c.length ≤ 1000)
    (hQ : ∀ h' o' es' n', DAt h' b x o' es' n' (cput c k v) → o'.dict = o.dict → o'.slots = o.slots → Heap.SameBut x s.heap h' → Q () { s with heap := h', toks := s.toks + 1 }) :
    wpAny (model prog w) A (PySem.setItem (.ref x) (.int k t) (.int v u)) Q E s := by
  unfold PySem.setItem
  refine wpAny_holding (wpAny_bind ((D.skey X _ _).here (wpAny_bind (D.callSpecial X (kd_setitem w b) PySem.slot_dict_setitem.bind
    (call_slot (nm := "__setitem__") PySem.slot_dict_setitem.plain PySem.entry_dict_setitem (by decide +kernel) (by decide +kernel) (D.isd X) (PySem.args_dict_setitem _ _ _) ?_)))))
  unfold Builtin.«dict.__setitem__» Builtin.Dict.notOrdered
  have hin : ["clear", "keys", "values", "items", "popitem", "__reversed__", "__iter__", "__repr__", "pop", "setdefault", "update", "__init__", "__setitem__", "__delitem__", "__ior__"].contains "__setitem__" = true := by decide
  rw [if_pos hin]
  refine wpAny_bind (wpAny_bind (D.type.here ?_))
  have e1 : slotArgs "__setitem__" 2 ⟨[.ref x, .int k t, .int v u], []⟩ = pure (.ref x, [.int k t, .int v u]) := by kernel_rfl
  have rest : wpAny (model prog w) A.in1 (do
      let (self, [key, v]) ← slotArgs "__setitem__" 2 ⟨[.ref x, .int k t, .int v u], []⟩ | unsupported "internal:dict.__setitem__"
      dictSet (← Builtin.Dict.addrOf self) key v
      ret .none) (fun fin s' => ∃ v, fin = .done (.ret v) ∧ wpAny (model prog w) A (pure ()) Q E s') E s := by
    rw [e1]
    refine wpAny_bind (wpAny_pure (wpAny_bind (wpAny_pure (wpAny_bind (dset D.at_ D.data D.ents hz fun h' o' es' n' h1 h2 h3 h4 h5 h6 h7 => wpAny_pure ⟨_, rfl, wpAny_pure (hQ h' o' es' n' ⟨h1, h3.trans D.cls, h2, h6, D.sys⟩ h4 h5 h7)⟩)))))
  have t3 := (looks_subIn (M := model prog w) X (kd_od w b))
  cases b with
  | false => exact wpAny_pure rest
  | true =>
    rw [if_pos (by decide)]
    refine wpAny_bind ((D.type.andThen t3).here ?_)
    exact wpAny_pure rest
end

end

section
open PySem PySem.W PySem.Calls PyProof.Rows
set_option maxHeartbeats 4000000
abbrev kiter (d : Addr) (i n ep : Nat) : Obj := { cls := .type "dict_keyiterator", data := .fields #[.ref d, .int i 0, .int n 0, .int ep 0] }
section
variable {prog : Program} {w : World} {A : Around} {E : Value → Shared → Prop} {s : Shared} {x it d : Addr} {b : Bool} {o od : Obj} {es : List DictEntry} {n ep : Nat} {c : List (Int × Int)} {i : Nat}
theorem kiter_ty (ho : s.heap.get? it = some (kiter d i n ep)) : s.TypeIs (.ref it) "dict_keyiterator" := ⟨_, ho, rfl⟩
theorem DAt.iter {Q : Value → Shared → Prop} (D : DAt s.heap b x o es n c) (X : (KF w).In s.heap)
    (h : Q (.ref s.heap.objs.size) { s with heap := s.heap.push (kiter x 0 es.length n) }) : wpAny (model prog w) A (pyIter (.ref x)) Q E s := by
  unfold pyIter
  refine wpAny_bind ((D.special X (kd_iter w b)).here ?_)
  dsimp only
  unfold callSpecialIfBoundUnlessNone? bindSpecialIfBound?
  refine wpAny_bind (wpAny_holding (wpAny_bind (wpAny_bind ((D.special X (kd_iter w b)).here ?_))))
  dsimp only
  have hask : ∀ (f : Bool) {α : Type} (t : Sem α) (h : Value → Sem α) (Q' : α → Shared → Prop) (E' : Value → Shared → Prop) (s' : Shared), wpAny (model prog w) A t Q' (fun _ _ => False) s' → wpAny (model prog w) A (if f = true then t else t.tryCatch h) Q' E' s' := by
    intro f α t h Q' E' s' z
    cases f with
    | true => exact wpAny_mono z (fun _ _ q => q) fun _ _ q => q.elim
    | false => exact wpAny_tryCatch (wpAny_mono z (fun _ _ q => q) fun _ _ q => q.elim)
  refine wpAny_bind (wpAny_askSetting (hask _ _ _ _ _ _ ?_))
  rw [PySem.F.slot_dict_iter.bind]
  refine wpAny_bind (wpAny_pure (wpAny_pure ?_))
  dsimp only
  rw [if_neg (by decide)]
  refine wpAny_bind (call_slot (nm := "__iter__") PySem.F.slot_dict_iter.plain PySem.F.entry_dict_iter (by decide +kernel) (by decide +kernel) (D.isd X) (PySem.F.args_dict_iter_1 _) ?_)
  have fin : wpAny (model prog w) A.in1 (do
      let d ← Builtin.Dict.addrOf (.ref x)
      Builtin.Dict.showsAll d
      ret (← newFields "dict_keyiterator" [.ref x, rawInt 0, rawInt (← dictEntries d).size, rawInt (← dictEpoch d)])) (fun fin s' => ∃ v, fin = .done (.ret v) ∧ wpAny (model prog w) A (pure (some v)) (fun a s' => wpAny (model prog w) A (match a with
          | some it => do
            match ← specialOf it "__next__" with
              | none => do
                rule "iter.non-iterator"
                raiseError "TypeError" s!"iter() returned non-iterator of type '{← typeNameOf it}'"
              | some _ => pure it
          | none => do
            match ← bindSpecialIfBound? (.ref x) "__getitem__" with
              | none => do
                rule "iter.not-iterable"
                raiseError "TypeError" s!"'{← typeNameOf (.ref x)}' object is not iterable"
              | some _ => do
                rule "iter.getitem-fallback"
                newFields "iterator" [.ref x, ← mkInt 0]) Q E s') E s') E s := by
    refine wpAny_bind (wpAny_pure ?_)
    unfold Builtin.Dict.showsAll
    rw [if_neg (by rw [D.sys]; exact Bool.false_ne_true)]
    refine wpAny_bind (wpAny_pure (wpAny_bind (wpAny_dictEntries D.at_ D.data (wpAny_bind (wpAny_dictEpoch D.at_ D.data ?_)))))
    refine wpAny_bind (wpAny_newObj_type (wpAny_pure ⟨_, rfl, wpAny_pure ?_⟩))
    dsimp only
    refine wpAny_bind (wpAny_specialOf (T := "dict_keyiterator") ⟨_, Heap.get?_push_size _ rfl, rfl⟩ PySem.F.slot_dict_keyiterator_next.lookup (wpAny_pure ?_))
    simpa [rawInt, kiter] using h
  unfold Builtin.«dict.__iter__» Builtin.Dict.dictSlotNone Builtin.Dict.notOrdered
  have hin : ["clear", "keys", "values", "items", "popitem", "__reversed__", "__iter__", "__repr__", "pop", "setdefault", "update", "__init__", "__setitem__", "__delitem__", "__ior__"].contains "__iter__" = true := by decide
  rw [if_pos hin]
  have t3 := (looks_subIn (M := model prog w) X (kd_od w b))
  have e1 : slotArgs "__iter__" 0 ⟨[.ref x], []⟩ = pure (.ref x, []) := by kernel_rfl
  rw [e1]
  refine wpAny_bind (wpAny_bind (wpAny_bind (D.type.here ?_)))
  cases b with
  | false => exact wpAny_pure (wpAny_bind (wpAny_pure (wpAny_pure fin)))
  | true =>
    rw [if_pos (by decide)]
    refine wpAny_bind ((D.type.andThen t3).here ?_)
    exact wpAny_pure (wpAny_bind (wpAny_pure (wpAny_pure fin)))
theorem lk_tn {h : Heap} (ho : h.get? it = some (kiter d i n ep)) : Looks (model prog w) h (typeNameOfWhole (.ref it)) "dict_keyiterator" := fun _ _ _ _ k q => wpAny_typeNameOfWhole_keyiter ⟨_, k _ _ ho, rfl⟩ q
theorem lk_one {h : Heap} (ho : h.get? it = some (kiter d i n ep)) (ts : List String) : Looks (model prog w) h (Builtin.Dict_items.isOneOf (.ref it) ts) (ts.any fun t => [Value.type "dict_keyiterator", Value.type "object"].contains (.type t)) := fun _ _ _ _ k q => wpAny_isOneOf_keyiter ⟨_, k _ _ ho, rfl⟩ q
theorem kiter_next {e : DictEntry} {Q : Option Value → Shared → Prop} (ho : s.heap.get? it = some (kiter d i es.length ep)) (hod : s.heap.get? d = some od) (hdd : od.data = .dict es.toArray ep) (hx : es[i]? = some e)
    (hQ : ∀ h', h'.get? it = some (kiter d (i + 1) es.length ep) → Heap.SameBut it s.heap h' → Q (some e.key) { s with heap := h' }) : wpAny (model prog w) A (pyNext (.ref it)) Q E s := by
  have hT := kiter_ty ho
  unfold pyNext
  refine wpAny_bind (wpAny_attempt (wpAny_callSpecial?_slot (name := Str.ofString "__next__") hT PySem.F.slot_dict_keyiterator_next
    (wpAny_call_entry PySem.F.slot_dict_keyiterator_next hT PySem.F.entry_dict_keyiterator_next ?_ (PySem.F.args_dict_keyiterator_next_1 _))))
  obtain ⟨hh, g, dr, t, os⟩ := s
  dsimp only at ho hod hT
  have l1 := lk_tn (prog := prog) (w := w) ho
  have l2 := lk_one (prog := prog) (w := w) ho
  unfold Builtin.«dict_keyiterator.__next__»
  obtain ⟨oc, odd, odt, osl⟩ := od
  dsimp only at hdd
  subst hdd
  repeat lk
  rw [if_neg (by simp)]
  repeat lk
  rw [if_neg (by simp)]
  repeat lk
  have hl : ¬ ((i : Int) < 0) := by omega
  rw [if_neg hl, Int.toNat_natCast, List.getElem?_toArray, hx]
  dsimp only
  repeat lk
  refine wpAny_update (o := kiter d i es.length ep) ho ?_
  generalize hf : (Obj.mapFields _ : Obj → Obj) = f
  have hfo : f (kiter d i es.length ep) = kiter d (i + 1) es.length ep := by subst hf; kernel_rfl
  have ho' : (hh.update it f).get? it = some (kiter d (i + 1) es.length ep) := by
    have := Heap.get?_update_self f ho (by rw [hfo]; rfl)
    rwa [hfo] at this
  have hs : Heap.SameBut it hh (hh.update it f) := Heap.SameBut.update ..
  dsimp only
  generalize hh.update it f = h2 at ho' hs
  repeat lk
  exact ⟨_, rfl, wpAny_pure (hQ _ ho' hs)⟩
theorem kiter_end {Q : Option Value → Shared → Prop} (hh : A.handled = none) (ho : s.heap.get? it = some (kiter d es.length es.length ep)) (hod : s.heap.get? d = some od) (hdd : od.data = .dict es.toArray ep)
    (hQ : ∀ h', Heap.ExtBut it s.heap h' → Q none { s with heap := h' }) : wpAny (model prog w) A (pyNext (.ref it)) Q E s := by
  have hT := kiter_ty ho
  unfold pyNext
  refine wpAny_bind (wpAny_attempt (wpAny_callSpecial?_slot (name := Str.ofString "__next__") hT PySem.F.slot_dict_keyiterator_next
    (wpAny_call_entry PySem.F.slot_dict_keyiterator_next hT PySem.F.entry_dict_keyiterator_next ?_ (PySem.F.args_dict_keyiterator_next_1 _))))
  obtain ⟨hh', g, dr, t, os⟩ := s
  dsimp only at ho hod hT
  have l1 := lk_tn (prog := prog) (w := w) ho
  have l2 := lk_one (prog := prog) (w := w) ho
  unfold Builtin.«dict_keyiterator.__next__»
  obtain ⟨oc, odd, odt, osl⟩ := od
  dsimp only at hdd
  subst hdd
  repeat lk
  rw [if_neg (by simp)]
  repeat lk
  rw [if_neg (by simp)]
  repeat lk
  have hl : ¬ ((es.length : Int) < 0) := by omega
  rw [if_neg hl, Int.toNat_natCast, List.getElem?_toArray, List.getElem?_eq_none (Nat.le_refl _)]
  dsimp only
  repeat lk
  refine wpAny_update (o := kiter d es.length es.length ep) ho ?_
  have hs : ∀ f, Heap.SameBut it hh' (hh'.update it f) := fun f => Heap.SameBut.update ..
  generalize hf : (Obj.mapFields _ : Obj → Obj) = f
  replace hs := hs f
  dsimp only
  generalize hh'.update it f = h2 at hs
  repeat lk
  have h3 : ∀ (o1 o2 : Obj), o2.isFreed = false → Heap.ExtBut it hh' ((h2.push o1).push o2) ∧ ((h2.push o1).push o2).get? (h2.push o1).objs.size = some o2 := fun o1 o2 hf =>
    ⟨(hs.extBut.push _).push _, Heap.get?_push_size _ hf⟩
  generalize ho1 : ({ cls := Value.type "tuple", data := Data.seq #[] } : Obj) = o1
  generalize ho2 : ({ cls := Value.type "StopIteration", data := _ } : Obj) = o2
  have c2 : o2.cls = .type "StopIteration" ∧ o2.isFreed = false := by subst ho2; exact ⟨rfl, rfl⟩
  obtain ⟨h4, h5⟩ := h3 o1 o2 c2.2
  generalize (h2.push o1).objs.size = ea at h5
  generalize (h2.push o1).push o2 = h6 at h4 h5
  refine wpAny_handled ?_
  rw [show A.in1.handled = none from hh]
  dsimp only
  repeat lk
  refine wpAny_throw ?_
  have t0 : Looks (model prog w) h6 (typeOf (.ref ea)) (.type "StopIteration") := c2.1 ▸ (Looks.ld h5).andThen .now
  have t2 : Looks (model prog w) h6 (isSubtype (.type "StopIteration") (.type "StopIteration")) true := Looks.of_pure (by rw [isSubtype_type]; kernel_rfl)
  have t1 : Looks (model prog w) h6 (isInstance (.ref ea) (.type "StopIteration")) true := t0.andThen t2
  refine wpAny_bind (t1.at ?_)
  exact wpAny_pure (hQ _ h4)
theorem kiter_self {n : Nat} {Q : Value → Shared → Prop} (ho : s.heap.get? it = some (kiter d i n ep)) (h : Q (.ref it) s) : wpAny (model prog w) A (pyIter (.ref it)) Q E s := by
  have hT := kiter_ty ho
  refine wpAny_pyIter_slot hT PySem.F.slot_dict_keyiterator_iter (wpAny_call_entry PySem.F.slot_dict_keyiterator_iter hT PySem.F.entry_dict_keyiterator_iter ?_ (PySem.F.args_dict_keyiterator_iter_1 _))
  show wpAny _ _ (ret (.ref it)) _ _ s
  exact wpAny_pure ⟨_, rfl, "dict_keyiterator", _, hT, PySem.F.slot_dict_keyiterator_next.lookup, h⟩
theorem kwalk (hh : A.handled = none) (I d : Addr) (hne : d ≠ I) (es : List DictEntry) (ep : Nat) :
    Walks prog w A I [I, d] [I] es.length (fun i v => ∃ e, es[i]? = some e ∧ v = e.key) (fun i h => h.get? I = some (kiter d i es.length ep) ∧ ∃ od, h.get? d = some od ∧ od.data = .dict es.toArray ep) where
  sub := fun b hb => by simp at hb; simp [hb]
  frame := fun _ _ _ st hk => ⟨hk I (by simp) _ st.1, let ⟨od, h1, h2⟩ := st.2; ⟨od, hk d (by simp) _ h1, h2⟩⟩
  item := fun i s Q E hi st hQ => by
    obtain ⟨h1, od, h2, h3⟩ := st
    refine kiter_next (e := es[i]) h1 h2 h3 (by simp [hi]) fun h' ho' hs' => ?_
    exact hQ _ h' s.toks ⟨es[i], by simp [hi], rfl⟩ ⟨ho', od, (hs'.2 d hne).trans h2, h3⟩ fun b o hb e => hs'.extBut b o (fun h => hb (by simp [h])) e
  done := fun s Q E st hQ => by
    obtain ⟨h1, od, h2, h3⟩ := st
    exact kiter_end hh h1 h2 h3 fun h' he' => hQ h' s.toks fun b o hb e => he' b o (fun h => hb (by simp [h])) e
  self := fun _ _ _ _ st hQ => kiter_self st.1 hQ
end

end

section
open PySem PySem.W PySem.Calls PyProof.Rows
set_option maxHeartbeats 4000000
theorem warm : (fun (_ : Params → Frag) (_ : OpenLaw) => True) hd.heap_39 PySem.Challenge.rw_br0038_01 := by
  k_fill
  trivial
theorem f1 (w : World) : findCls (hd.heap_39 w.params) (.type "dict") (.type "type") "__init__" = some (.val (.builtin "dict.__init__")) := by
  k_is
theorem f2 : typeOf (.type "dict") = pure (.type "type") := by kernel_rfl
theorem f3 : Manifest.isStub "dict" = false := by decide +kernel
theorem f4 : handedIn (.builtin "dict.__init__") = true := by decide +kernel
theorem k_nod (w : World) : mroIn (hd.heap_39 w.params) CTR (.type "collections.OrderedDict") = some false := by kernel_rfl
theorem kindDI : builtinKind "dict.__init__" = some .slot := by decide +kernel
theorem splitDI : splitId "dict.__init__" = some ("dict", "__init__") := by decide +kernel
theorem argsDI (x : Addr) : argsOk "dict.__init__" ⟨[.ref x], []⟩ := by unfold argsOk; kernel_rfl
section
variable {prog : Program} {w : World} {A : Around} {E : Value → Shared → Prop} {x dx : Addr} {es : Array DictEntry} {n : Nat} {s : Shared} {h₀ : Heap} {L : Addr} {m : Str → Option Value} {news : List (Addr × Obj)} {Q : Value → Shared → Prop}
theorem looks_ty {M : Model} {h : Heap} (hx : h.get? x = some (ctrO dx es n)) : Looks M h (typeOf (.ref x)) (.ref CTR) := (Looks.ld hx).andThen .now
theorem looks_isd {M : Model} {h : Heap} (X : (hd.heap_39 w.params).In h) (hx : h.get? x = some (ctrO dx es n)) : Looks M h (isInstance (.ref x) (.type "dict")) true := (looks_ty hx).andThen (looks_mroIn X (k_subdict w))
theorem looks_nod {M : Model} {h : Heap} (X : (hd.heap_39 w.params).In h) (hx : h.get? x = some (ctrO dx es n)) : Looks M h (isInstance (.ref x) (.type "collections.OrderedDict")) false := (looks_ty hx).andThen (looks_mroIn X (k_nod w))
theorem ctr_dict_init (X : (hd.heap_39 w.params).In h₀) (F : Fr h₀ L s.heap m) (N : News h₀ L s.heap news) (hm : (x, ctrO dx es n) ∈ news) (h : Q .none s) :
    wpAny (model prog w) A (call (.builtin "dict.__init__") [.ref x]) Q E s := by
  have hx := N.get hm
  have X' := X.keeps F.keep
  obtain ⟨hh, g, d, t, os⟩ := s
  dsimp only at hx X'
  refine wpAny_call (codeAny_call_builtin (by decide +kernel) PySem.F.entry_dict_init (@check_slot _ _ _ _ _ _ _ _ _ _ _ kindDI splitDI (looks_isd X' hx) (argsDI x) ?_))
  unfold Builtin.«dict.__init__» Builtin.Dict.selfAndRest Builtin.Dict.notOrdered
  have t1 := looks_ty (M := model prog w) hx
  have t2 := looks_mroIn (M := model prog w) X' (k_nod w)
  repeat lk
  exact h
end

end

section
/-- the walk halts here -/
structure Halt (p : Prop) : Prop where
  out : p

end

section
open PySem PySem.W PySem.Calls PyProof.Rows
set_option maxHeartbeats 4000000
section
variable {prog : Program} {w : World} {A : Around} {E : Value → Shared → Prop} {s : Shared} {env : Env} {h₀ : Heap} {x : Str} {body : List Stmt} {Q : Flow → Shared → Prop}
/-- a loop over any source of the base -/
theorem iter_gen {d n : Nat} {P : Nat → Value → Prop} {St : Nat → Heap → Prop} {io od : Obj} {m₀ : Str → Option Value} {news : List (Addr × Obj)} (J : Nat → (Str → Option Value) → List (Addr × Obj) → Prop)
    (W : Walks prog w A s.heap.objs.size [s.heap.objs.size, d] [s.heap.objs.size] n P St) (hst : St 0 (s.heap.push io)) (_hf : io.isFreed = false) (hd : h₀.get? d = some od)
    (hit : ∀ Q' : Value → Shared → Prop, Q' (.ref s.heap.objs.size) { s with heap := s.heap.push io } → wpAny (model prog w) A (pyIter (.ref d)) Q' E s)
    (F : Fr h₀ env.locals s.heap m₀) (N : News h₀ env.locals s.heap news) (hj : J 0 m₀ news)
    (turn : ∀ i v m₁ news₁ h tk own, i < n → P i v → news₁.map (·.1) = news.map (·.1) → OwnOff own (news.map (·.1)) → J i m₁ news₁ → Fr h₀ env.locals h (fun y => if y = x then some v else m₁ y) → News h₀ env.locals h (news₁ ++ own) →
      wpAny (model prog w) A (execs body env) (InvPostN h₀ env.locals (J (i + 1)) own (news.map (·.1)) { s with heap := h, toks := tk } Q) E { s with heap := h, toks := tk })
    (done : ∀ m₁ news₁ h tk, J n m₁ news₁ → Fr h₀ env.locals h m₁ → News h₀ env.locals h news₁ → Q .next { s with heap := h, toks := tk }) :
    wpAny (model prog w) A (pyIter (.ref d)) (fun it s₂ => LoopAtV prog w A h₀ env x body Q E it s₂) E s := by
  have hlt : d < h₀.objs.size := Heap.lt_size hd
  refine hit _ ?_
  let J' : Nat → (Str → Option Value) → List (Addr × Obj) → Prop := fun i m₁ news₁ => news₁.map (·.1) = news.map (·.1) ∧ J i m₁ news₁
  refine ⟨_, _, _, n, _, _, m₀, news, J', rfl, W, ?_, ?_, ?_, hst, F.push _, (fun p hp => ⟨Heap.get?_push_of_some _ (N p hp).1, (N p hp).2⟩), ⟨rfl, hj⟩, ?_, ?_⟩
  · intro hm
    rcases List.mem_cons.mp hm with e | hm
    · exact absurd F.ns.lt (e ▸ Nat.lt_irrefl _)
    · exact absurd (Nat.lt_of_lt_of_le hlt F.above) ((List.mem_singleton.mp hm) ▸ Nat.lt_irrefl _)
  · intro b hb
    rw [List.mem_singleton.mp hb]
    exact next_is_new F
  · intro p hp hI
    exact absurd (Heap.lt_size (N p hp).1) ((List.mem_singleton.mp hI) ▸ Nat.lt_irrefl _)
  · rintro i v m₁ news₁ s₁ own ⟨hh', tk', rfl⟩ hin hP ⟨hadr, hJ⟩ hoff hown _ _ _ F₁ N₁
    have hsep : OwnOff own (news.map (·.1)) := by
      intro p hp b hb e
      obtain ⟨q, hq, rfl⟩ := List.mem_map.mp hb
      rcases List.mem_cons.mp (hown p hp) with h1 | h1
      · exact absurd (Heap.lt_size (N q hq).1) (by rw [← e, h1]; exact Nat.lt_irrefl _)
      · have h2 := List.mem_singleton.mp h1
        have h3 := (N q hq).2.2
        rw [← e, h2, hd] at h3
        cases h3
    have N₂ : News h₀ env.locals hh' (news₁ ++ own) := fun p hp => N₁ p ((List.mem_append.mp hp).elim (fun h => List.mem_append.mpr (.inr h)) fun h => List.mem_append.mpr (.inl h))
    refine wpAny_mono (turn i v m₁ news₁ hh' tk' own hin hP hadr hsep hJ F₁ N₂) (fun f s₂ p => ?_) fun _ _ e => e
    have fin : InvEndN h₀ env.locals (J (i + 1)) own (news.map (·.1)) { s with heap := hh', toks := tk' } s₂ → LoopStepU h₀ env.locals [s.heap.objs.size] own (J' (i + 1)) { s with heap := hh', toks := tk' } .next s₂ := by
      rintro ⟨h', tk, m', news', nx, e, F', N', hn, ho, ha, hm⟩
      refine ⟨rfl, h', tk, m', nx, e, F', fun p hp => N' p ((List.mem_append.mp hp).elim (ho p) (hn p)), fun p hp hq => ?_, ha, hm⟩
      have h1 : p.1 ∈ nx.map (·.1) := List.mem_map.mpr ⟨p, hp, rfl⟩
      rw [ha, ← hadr] at h1
      obtain ⟨q, hq1, hq2⟩ := List.mem_map.mp h1
      exact hoff q hq1 (by rw [hq2]; exact hq)
    cases f with
    | ret v => exact .ret p
    | brk => exact .brk p
    | next => exact .next (fin p)
    | cont => exact .cont (fin p)
  · rintro h' tk m' news' F' N' _ ⟨_, hJ⟩
    exact done m' news' h' tk hJ F' N'
end

end

section
open PySem PySem.W PySem.Calls PyProof.Rows
set_option maxHeartbeats 4000000
section
variable {prog : Program} {w : World} {A : Around} {s : Shared} {R : Result → Shared → Prop} {name qual : Str} {params : Arguments} {body : List Stmt} {scope : Scope} {dV kV doc pm cdv ct oc : Value} {an od : Option Addr} {osl : Array (Option Value)} {f : Addr} {args : Args} {binds : List (Str × Value)}
  {hb : Heap} {news : List (Addr × Obj)} {p : Program} {loose : List Str} {mg mb : Str → Option Value}
/-- into a def without cells: the base hb may be an elder heap -/
theorem enter (X : (hd.heap_39 w.params).In s.heap) (T : TopRead p loose mg mb s.heap) (hk : ∀ b o, hb.get? b = some o → s.heap.get? b = some o) (hsz : hb.objs.size ≤ s.heap.objs.size) (hn : ∀ q ∈ news, s.heap.get? q.1 = some q.2 ∧ hb.get? q.1 = none)
    (ho : (hd.heap_39 w.params).lookup f = some ⟨oc, od, .func (fnOf name qual params body scope dV kV doc pm an cdv ct), osl⟩) (hcd : codeIn (hd.heap_39 w.params) cdv qual = true) (hroom : A.depth < recursionLimit)
    (hbind : BindsTo s (fnOf name qual params body scope dV kV doc pm an cdv ct) args binds) (hloc : ∀ y ∈ binds, scope.names.lookup y.1 = some .local)
    (h : ∀ L' h₁, Fr hb L' h₁ (fun y => binds.reverse.lookup y) → News hb L' h₁ news → (∀ b o, s.heap.get? b = some o → h₁.get? b = some o) →
      wpAny (model prog w) (A.deeper (envOf qual scope L' f cdv)) (execs body (envOf qual scope L' f cdv))
        (fun fl s' => R (.ok (.ret (match fl with | .ret v => v | _ => .none))) s')
        (fun e s' => wpAny (model prog w) (A.deeper (envOf qual scope L' f cdv)) (leaving (envOf qual scope L' f cdv) e) (fun _ s'' => R (.error e) s'') (fun e' s'' => R (.error e') s'') s')
        { s with heap := h₁, toks := s.toks + binds.length })
    (hco : scope.isCoroutine = false) (hgen : scope.isGenerator = false) (hk' : scope.kind = .function)
    (hcell : ∀ x ∈ scope.names, x.2 ≠ .cell) : codeAny (model prog w) A (.call (.ref f) args) R s := by
  refine codeAny_call_def (fd := fnOf name qual params body scope dV kV doc pm an cdv ct) (body := body) (binds := binds) hroom (X _ _ ho) rfl T.nolimit (codeRec_of X hcd) rfl hbind hcell hloc (fun h₁ hns hk₁ => ?_) hco hgen hk'
  exact h s.heap.objs.size h₁ ⟨hns, fun b o e => hk₁ b o (hk b o e), hsz⟩ (fun q hq => ⟨hk₁ _ _ (hn q hq).1, Nat.ne_of_lt (Heap.lt_size (hn q hq).1), (hn q hq).2⟩) hk₁
end
local macro_rules | `(tactic| walk_at "m_enter") => `(tactic| (refine' enter ?k1 ?k2 ?k3 ?k4 ?k5 ?k6 ?k7 ?k8 ?k9 ?kB ?_ ?c2 ?c3 ?c4 ?c5; (case k1 => assumption); (case k2 => assumption); (case k3 => assumption); (case k4 => assumption); (case k5 => assumption); (case k6 => k_is); (case k7 => k_is); (case k8 => k_room); (case k9 => first | exact BindsTo.of_eq rfl | exact binds_K (by assumption) rfl (by k_is) rfl rfl rfl | fail "m_enter: no rule for these arguments"); (case c5 => decide); (case kB => exact locs rfl); (case c2 => exact rfl); (case c3 => exact rfl); (case c4 => exact rfl)))

end

open PySem PySem.W PySem.Calls PyProof.Rows
local macro_rules | `(tactic| walk_at "m_enter") => `(tactic| (refine' enter ?k1 ?k2 ?k3 ?k4 ?k5 ?k6 ?k7 ?k8 ?k9 ?kB ?_ ?c2 ?c3 ?c4 ?c5; (case k1 => assumption); (case k2 => assumption); (case k3 => assumption); (case k4 => assumption); (case k5 => assumption); (case k6 => k_is); (case k7 => k_is); (case k8 => k_room); (case k9 => first | exact BindsTo.of_eq rfl | exact binds_K (by assumption) rfl (by k_is) rfl rfl rfl | fail "m_enter: no rule for these arguments"); (case c5 => decide); (case kB => exact locs rfl); (case c2 => exact rfl); (case c3 => exact rfl); (case c4 => exact rfl)))
local macro_rules | `(tactic| k_room) => `(tactic| ((try simp only [depth_mark, depth_under_make, depth_under_kw, depth_in1, depth_deeper]); omega))
local macro_rules | `(tactic| walk_at "getMethod type:dict") => `(tactic| (k_here; refine' method_type ?F ?X ?m (by decide +kernel) ?e ?h ?_; (case F => k_asm); (case X => k_asm); (case m => exact f2); (case e => k_dflt k_is); (case h => k_handed)))
local macro_rules | `(tactic| walk_at "call builtin:dict.__init__") => `(tactic| (k_here; refine' ctr_dict_init ?X ?F ?N ?m ?_; (case F => k_asm); (case X => k_asm); (case N => k_asm); (case m => k_mem)))

section
open PySem PySem.W PySem.Calls PyProof.Rows
set_option maxHeartbeats 4000000
theorem Ents.row {es : List DictEntry} {c : List (Int × Int)} (z : Ents es c) {i : Nat} {e : DictEntry} (he : es[i]? = some e) : ∃ k v t u, c[i]? = some (k, v) ∧ e = ⟨hashInt k, .int k t, .int v u⟩ := by
  induction z generalizing i with
  | nil => simp at he
  | cons hr ih =>
    rename_i k v t u es c
    cases i with
    | zero => simp at he; exact ⟨k, v, t, u, rfl, he.symm⟩
    | succ j => simp only [List.getElem?_cons_succ] at he ⊢; exact ih he
section
variable {prog : Program} {w : World} {A : Around} {E : Value → Shared → Prop} {s : Shared} {env : Env} {h₀ : Heap} {x : Str} {body : List Stmt} {Q : Flow → Shared → Prop}
/-- a loop over a source of the base, its word about the ledger alone -/
theorem iter_news {d n : Nat} {P : Nat → Value → Prop} {St : Nat → Heap → Prop} {io od : Obj} {m₀ : Str → Option Value} {news : List (Addr × Obj)} (J : Nat → List (Addr × Obj) → Prop)
    (W : Walks prog w A s.heap.objs.size [s.heap.objs.size, d] [s.heap.objs.size] n P St) (hst : St 0 (s.heap.push io)) (hf : io.isFreed = false) (hd : h₀.get? d = some od)
    (hit : ∀ Q' : Value → Shared → Prop, Q' (.ref s.heap.objs.size) { s with heap := s.heap.push io } → wpAny (model prog w) A (pyIter (.ref d)) Q' E s)
    (F : Fr h₀ env.locals s.heap m₀) (N : News h₀ env.locals s.heap news) (hj : J 0 news)
    (turn : ∀ i v news₁ h tk own, i < n → P i v → news₁.map (·.1) = news.map (·.1) → OwnOff own (news.map (·.1)) → J i news₁ → Fr h₀ env.locals h (fun y => if y = x then some v else m₀ y) → News h₀ env.locals h (news₁ ++ own) →
      wpAny (model prog w) A (execs body env) (InvPostN h₀ env.locals (fun m' nx => (∀ z, z ≠ x → m' z = m₀ z) ∧ J (i + 1) nx) own (news.map (·.1)) { s with heap := h, toks := tk } Q) E { s with heap := h, toks := tk })
    (done : ∀ (u : Str → Option Value) news₁ h tk, J n news₁ → Fr h₀ env.locals h (fun z => if z = x then u z else m₀ z) → News h₀ env.locals h news₁ → Q .next { s with heap := h, toks := tk }) :
    wpAny (model prog w) A (pyIter (.ref d)) (fun it s₂ => LoopAtV prog w A h₀ env x body Q E it s₂) E s := by
  refine iter_gen (fun i m nx => (∀ z, z ≠ x → m z = m₀ z) ∧ J i nx) W hst hf hd hit F N ⟨fun _ _ => rfl, hj⟩ ?_ ?_
  · rintro i v m₁ news₁ h tk own hi hP ha ho ⟨hm, hJ⟩ F₁ N₁
    have e : (fun z => if z = x then some v else m₁ z) = fun z => if z = x then some v else m₀ z := by
      funext z
      by_cases h1 : z = x
      · simp [h1]
      · simp only [if_neg h1]; exact hm z h1
    rw [e] at F₁
    exact turn i v news₁ h tk own hi hP ha ho hJ F₁ N₁
  · rintro m₁ news₁ h tk ⟨hm, hJ⟩ F₁ N₁
    refine done m₁ news₁ h tk hJ ?_ N₁
    have e : (fun z => if z = x then m₁ z else m₀ z) = m₁ := by
      funext z
      by_cases h1 : z = x
      · simp [h1]
      · simp only [if_neg h1]; exact (hm z h1).symm
    rw [e]; exact F₁
theorem iter_tup {d : Addr} {vs : List Value} {m₀ : Str → Option Value} {news : List (Addr × Obj)} (J : Nat → List (Addr × Obj) → Prop) (hh : A.handled = none) (ht : h₀.IsTuple d vs.toArray)
    (F : Fr h₀ env.locals s.heap m₀) (N : News h₀ env.locals s.heap news) (hj : J 0 news)
    (turn : ∀ i v news₁ h tk own, vs[i]? = some v → news₁.map (·.1) = news.map (·.1) → OwnOff own (news.map (·.1)) → J i news₁ → Fr h₀ env.locals h (fun y => if y = x then some v else m₀ y) → News h₀ env.locals h (news₁ ++ own) →
      wpAny (model prog w) A (execs body env) (InvPostN h₀ env.locals (fun m' nx => (∀ z, z ≠ x → m' z = m₀ z) ∧ J (i + 1) nx) own (news.map (·.1)) { s with heap := h, toks := tk } Q) E { s with heap := h, toks := tk })
    (done : ∀ (u : Str → Option Value) news₁ h tk, J vs.length news₁ → Fr h₀ env.locals h (fun z => if z = x then u z else m₀ z) → News h₀ env.locals h news₁ → Q .next { s with heap := h, toks := tk }) :
    wpAny (model prog w) A (pyIter (.ref d)) (fun it s₂ => LoopAtV prog w A h₀ env x body Q E it s₂) E s := by
  have ht' : s.heap.IsTuple d vs.toArray := let ⟨o, a, b, c, e⟩ := ht; ⟨o, F.keep _ _ a, b, c, e⟩
  obtain ⟨od, ho, _⟩ := id ht
  have hne : d ≠ s.heap.objs.size := Nat.ne_of_lt (Heap.lt_size (F.keep _ _ ho))
  have hl : vs.toArray.size = vs.length := by simp
  refine iter_news (n := vs.toArray.size) (io := { cls := .type "tuple_iterator", data := .fields #[.ref d, .int 0 0] }) J (Walks.tuple hh s.heap.objs.size d hne vs.toArray)
    ⟨⟨_, Heap.get?_push_size _ rfl, rfl, rfl⟩, let ⟨o, a, b, c, e⟩ := ht'; ⟨o, Heap.get?_push_of_some _ a, b, c, e⟩⟩ rfl ho (fun Q' h => wpAny_pyIter_tuple ht' h) F N hj ?_ (by rw [hl]; exact done)
  intro i v news₁ h tk own hi hP ha ho hJ F₁ N₁
  exact turn i v news₁ h tk own (by simpa using hP) ha ho hJ F₁ N₁
theorem iter_dat {d : Addr} {b : Bool} {o : Obj} {es : List DictEntry} {nn : Nat} {c : List (Int × Int)} {m₀ : Str → Option Value} {news : List (Addr × Obj)} (J : Nat → List (Addr × Obj) → Prop) (hh : A.handled = none) (D : DAt h₀ b d o es nn c) (X : (KF w).In h₀)
    (F : Fr h₀ env.locals s.heap m₀) (N : News h₀ env.locals s.heap news) (hj : J 0 news)
    (turn : ∀ i k v t news₁ h tk own, c[i]? = some (k, v) → news₁.map (·.1) = news.map (·.1) → OwnOff own (news.map (·.1)) → J i news₁ → Fr h₀ env.locals h (fun y => if y = x then some (.int k t) else m₀ y) → News h₀ env.locals h (news₁ ++ own) →
      wpAny (model prog w) A (execs body env) (InvPostN h₀ env.locals (fun m' nx => (∀ z, z ≠ x → m' z = m₀ z) ∧ J (i + 1) nx) own (news.map (·.1)) { s with heap := h, toks := tk } Q) E { s with heap := h, toks := tk })
    (done : ∀ (u : Str → Option Value) news₁ h tk, J c.length news₁ → Fr h₀ env.locals h (fun z => if z = x then u z else m₀ z) → News h₀ env.locals h news₁ → Q .next { s with heap := h, toks := tk }) :
    wpAny (model prog w) A (pyIter (.ref d)) (fun it s₂ => LoopAtV prog w A h₀ env x body Q E it s₂) E s := by
  have D' := D.keep F.keep
  have hne : d ≠ s.heap.objs.size := Nat.ne_of_lt (Heap.lt_size D'.at_)
  refine iter_news (n := es.length) (io := kiter d 0 es.length nn) J (kwalk hh s.heap.objs.size d hne es nn)
    ⟨Heap.get?_push_size _ rfl, o, Heap.get?_push_of_some _ D'.at_, D'.data⟩ rfl D.at_ (fun Q' h => D'.iter (X.keeps F.keep) h) F N hj ?_ (by rw [D.ents.length]; exact done)
  rintro i v news₁ h tk own hi ⟨e, he, rfl⟩ ha ho hJ F₁ N₁
  obtain ⟨k, v, t, u, h1, h2⟩ := D.ents.row he
  subst h2
  exact turn i k v t news₁ h tk own h1 ha ho hJ F₁ N₁
end
section
variable {prog : Program} {w : World} {A : Around} {E : Value → Shared → Prop} {s : Shared} {x dx L : Addr} {h₀ : Heap} {m : Str → Option Value} {news : List (Addr × Obj)} {es : List DictEntry} {n : Nat} {c : List (Int × Int)} {k d : Int} {t u : Tok} {g : Obj → List (Addr × Obj)}
theorem dat_news (N : News h₀ L s.heap news) (hm : (x, ctrO dx es.toArray n) ∈ news) (he : Ents es c) (hs : (x == sysModules) = false) : DAt s.heap true x (ctrO dx es.toArray n) es n c := ⟨N.get hm, rfl, rfl, he, hs⟩
theorem line_get {Q : Value → Shared → Prop} (F : Fr h₀ L s.heap m) (N : News h₀ L s.heap news) (X : (hd.heap_39 w.params).In h₀) (hm : (x, ctrO dx es.toArray n) ∈ news) (he : Ents es c) (hs : (x == sysModules) = false)
    (h : ∀ u, Q (.int ((cget c k).getD d) u) { s with toks := s.toks + 1 }) : wpAny (model prog w) A (call (.builtin "dict.get") [.ref x, .int k t, .int d u]) Q E s :=
  (dat_news N hm he hs).get2 (X.keeps F.keep) h
theorem line_set {v : Int} {Q : Unit → Shared → Prop} (F : Fr h₀ L s.heap m) (N : News h₀ L s.heap news) (X : (hd.heap_39 w.params).In h₀) (U : UpdF x (ctrO dx es.toArray n) news g) (he : Ents es c) (hs : (x == sysModules) = false) (hz : c.length ≤ 1000)
    (h : ∀ h' es' n', Fr h₀ L h' m → News h₀ L h' (g (ctrO dx es'.toArray n')) → Ents es' (cput c k v) → Q () { s with heap := h', toks := s.toks + 1 }) : wpAny (model prog w) A (setItem (.ref x) (.int k t) (.int v u)) Q E s := by
  obtain ⟨own, rest, rfl, hg, h1, h2⟩ := U.split
  have hmem := N (x, ctrO dx es.toArray n) (List.mem_append_right _ (.head _))
  refine (dat_news (N := N) (List.mem_append_right _ (.head _)) he hs).setItem (X.keeps F.keep) hz fun h' o' es' n' D hd hsl hsb => ?_
  obtain ⟨oc, od, odt, osl⟩ := o'
  have e1 := D.cls
  have e2 := D.data
  dsimp only at e1 e2 hd hsl
  subst e1 e2 hd hsl
  exact h h' es' n' (F.change hsb hmem.2.1 hmem.2.2) (hg _ ▸ N.setAt h1 h2 hsb D.at_) D.ents
theorem kc_ga (w : World) : findIn (KF w) (.ref CTR) "__getattribute__" = some (some (.builtin "dict.__getattribute__")) := by kernel_rfl
theorem kc_gat (w : World) : findIn (KF w) (.ref CTR) "__getattr__" = some none := by kernel_rfl
theorem kc_get (w : World) : findIn (KF w) (.ref CTR) "get" = some (some (.builtin "dict.get")) := by kernel_rfl
theorem kc_values (w : World) : findIn (KF w) (.ref CTR) "values" = some (some (.builtin "dict.values")) := by kernel_rfl
theorem kc_copy (w : World) : findIn (KF w) (.ref CTR) "copy" = some (some (.ref 44)) := by kernel_rfl
theorem canon_dga : Manifest.canonical "dict.__getattribute__" = "object.__getattribute__" := by decide +kernel
theorem looks_empty {M : Model} {h : Heap} {name : Str} (hx : h.get? dx = some (dictOf [] 0)) : Looks M h (nsGet dx name) none := by
  unfold nsGet
  exact (Looks.ld hx).andThen (Looks.of_pure rfl)
theorem ctr_method {name : Str} {f tf : Value} {pl : Sem Bool} {o : Obj} {Q : Value × List Value → Shared → Prop} (X : (KF w).In s.heap) (hx : s.heap.get? x = some o) (hc : o.cls = .ref CTR) (hd : o.dict = some dx) (hdx : s.heap.get? dx = some (dictOf [] 0))
    (hf : findIn (KF w) (.ref CTR) name = some (some f)) (htf : Looks (model prog w) s.heap (typeOf f) tf) (hk : (tf != .type "function" && tf != .type "method_descriptor" && tf != .type "wrapper_descriptor") = false)
    (h : Q (f, [.ref x]) s) : wpAny (model prog w) A (getMethod (.ref x) name pl) Q E s := by
  have t1 : Looks (model prog w) s.heap (typeOf (.ref x)) (.ref CTR) := hc ▸ (Looks.ld hx).andThen .now
  have g1 := looks_findIn (M := model prog w) X (kc_ga w)
  have g2 := looks_findIn (M := model prog w) X (kc_gat w)
  have g3 := looks_findIn (M := model prog w) X hf
  unfold getMethod
  refine wpAny_bind ((t1.andThen g1).here ?_)
  dsimp only
  rw [canon_dga, if_neg (by decide)]
  refine wpAny_bind ((t1.andThen g2).here ?_)
  rw [if_neg (by decide)]
  refine wpAny_bind ((t1.andThen g3).here ?_)
  dsimp only
  refine wpAny_bind (htf.here ?_)
  rw [hk, if_neg (by decide)]
  refine wpAny_bind (wpAny_loadPart hx ?_)
  rw [hd]
  dsimp only
  refine wpAny_bind ((looks_empty hdx).here ?_)
  rw [if_neg (by decide)]
  exact wpAny_bind (wpAny_rule (wpAny_pure h))
theorem line_meth_get {pl : Sem Bool} {Q : Value × List Value → Shared → Prop} (F : Fr h₀ L s.heap m) (N : News h₀ L s.heap news) (X : (hd.heap_39 w.params).In h₀) {es : Array DictEntry} (hm : (x, ctrO dx es n) ∈ news) (hmd : (dx, dictOf [] 0) ∈ news)
    (h : Q (.builtin "dict.get", [.ref x]) s) : wpAny (model prog w) A (getMethod (.ref x) "get" pl) Q E s :=
  ctr_method (X.keeps F.keep) (N.get hm) rfl rfl (N.get hmd) (kc_get w) (Looks.of_pure PySem.F.type_dict_get) (by decide) h
end

end

open PySem PySem.W PySem.Calls PyProof.Rows
local macro_rules | `(tactic| walk_at "getMethod ref") => `(tactic| (k_here; (with_reducible show wpAny _ _ (getMethod _ (PySem.Str.ofString "get") _) _ _ _); refine' line_meth_get ?F ?N ?X ?m ?md ?_; (case F => k_asm); (case X => k_asm); (case N => k_asm); (case m => k_mem); (case md => k_mem)))
local macro_rules | `(tactic| walk_at "call builtin:dict.get") => `(tactic| (k_here; refine' line_get ?F ?N ?X ?m ?e ?s ?_; (case F => k_asm); (case X => k_asm); (case N => k_asm); (case m => k_mem); (case e => assumption); (case s => assumption); intro u'))
local macro_rules | `(tactic| walk_at "setItem ref") => `(tactic| (k_here; refine' line_set ?F ?N ?X ?U ?e ?s ?z ?_; (case F => k_asm); (case X => k_asm); (case N => k_asm); (case U => k_updF); (case e => assumption); (case s => assumption); (case z => assumption); intro h' es' n' F' N' E'; (try dsimp only)))

section
open PySem PySem.W PySem.Calls PyProof.Rows
set_option maxHeartbeats 4000000
theorem warm2 : (fun (_ : Params → Frag) (_ : OpenLaw) => True) hd.heap_39 PySem.Challenge.rw_br0038_01 := by
  k_fill
  trivial
def cnt (ns : List Int) : List (Int × Int) := ns.foldl (fun c k => cput c k ((cget c k).getD 0 + 1)) []
theorem cnt_take {ns : List Int} {i : Nat} {k : Int} (h : ns[i]? = some k) : cnt (ns.take (i + 1)) = cput (cnt (ns.take i)) k ((cget (cnt (ns.take i)) k).getD 0 + 1) := by
  unfold cnt
  rw [List.take_add_one, h]
  simp
theorem cnt_len (ns : List Int) : (cnt ns).length ≤ ns.length := by
  have : ∀ (l : List Int) (c : List (Int × Int)), (l.foldl (fun c k => cput c k ((cget c k).getD 0 + 1)) c).length ≤ c.length + l.length := by
    intro l
    induction l with
    | nil => intro c; simp
    | cons a l ih =>
      intro c
      rw [List.foldl_cons, List.length_cons]
      have := ih (cput c a ((cget c a).getD 0 + 1))
      have := cput_length c a ((cget c a).getD 0 + 1)
      omega
  simpa [cnt] using this ns []
theorem ctr_tuple {prog : Program} {w : World} {A : Around} {p : Program} {loose : List Str} {mg mb : Str → Option Value} {s : Shared} {Q E : Value → Shared → Prop} {tp : Addr} {vs : List Value} {ns : List Int}
    (X : (hd.heap_39 w.params).In s.heap) (T : TopRead p loose mg mb s.heap) (hA : A.handled = none) (hd : A.depth + 10 < recursionLimit) (hu : A.units + 40 < cLine)
    (ht : s.heap.IsTuple tp vs.toArray) (hi : IntsAre vs ns) (hsz : ns.length ≤ 1000)
    (hQ : ∀ x dx es n h' tk, (∀ b o, s.heap.get? b = some o → h'.get? b = some o) → s.heap.get? x = none → s.heap.get? dx = none → h'.get? dx = some (dictOf [] 0) → h'.get? x = some (ctrO dx es.toArray n) → Ents es (cnt ns) → (x == sysModules) = false → Q (.ref x) { s with heap := h', toks := tk }) :
    wpAny (model prog w) A (call (.ref 74) [.ref tp]) Q E s := by
  refine wpAny_call ?_
  obtain ⟨hh, g, d, t, os⟩ := s
  dsimp only at X T ht
  refine makeD_core (makesD_of X) (looks_findIn X (k_init w)) (fun self => bind_fn X self (k_fn37 w)) ?_
  generalize hx : hh.objs.size + 1 = x
  generalize hdx : hh.objs.size = dx
  have hk : ∀ b o, hh.get? b = some o → ((hh.push emptyDict).push (ctrO dx #[] 0)).get? b = some o := fun b o e => Heap.get?_push_of_some _ (Heap.get?_push_of_some _ e)
  have hz : hh.objs.size ≤ ((hh.push emptyDict).push (ctrO dx #[] 0)).objs.size := by simp only [Heap.size_push]; omega
  have hn : ∀ q ∈ [(x, ctrO dx #[] 0), (dx, dictOf [] 0)], ((hh.push emptyDict).push (ctrO dx #[] 0)).get? q.1 = some q.2 ∧ hh.get? q.1 = none := by
    subst hx hdx
    intro q hq
    simp only [List.mem_cons, List.not_mem_nil, or_false] at hq
    rcases hq with rfl | rfl
    · exact ⟨by heap_get, Heap.get?_none_of_le (by omega)⟩
    · exact ⟨by heap_get, Heap.get?_none_of_le (Nat.le_refl _)⟩
  have hsys : (x == sysModules) = false := by
    have hlt : (74 : Nat) < hh.objs.size := Heap.lt_size (X 74 _ rfl)
    have : (x : Nat) ≠ 1 := by omega
    simpa [sysModules] using this
  generalize hh1 : (hh.push emptyDict).push (ctrO dx #[] 0) = h1 at hk hz hn
  have X1 := X.keeps hk
  have T1 := T.keeps hk
  clear hh1
  walk_at "m_enter"
  intro L' h₁ F N hk₁
  k_steps
  (with_reducible rename IntsAre _ _ => hi)
  refine iter_tup (fun i nx => ∃ es n, nx = [(x, ctrO dx es.toArray n), (dx, dictOf [] 0)] ∧ Ents es (cnt (ns.take i))) (by show A.handled = none; exact hA) ht (by assumption) (by assumption) ⟨[], 0, rfl, .nil⟩ ?_ ?_
  · rintro i v news₁ h tk own hv hadr hoff ⟨es, n, rfl, he⟩ F₁ N₁
    have hik : i < ns.length := by
      have := hi.length
      have := (List.getElem?_eq_some_iff.mp hv).1
      omega
    obtain ⟨t', ht'⟩ := hi.get i ns[i] (by simp [hik])
    rw [hv] at ht'
    cases ht'
    have hz1 : (cnt (ns.take i)).length ≤ 1000 := by
      have := cnt_len (ns.take i)
      rw [List.length_take] at this
      omega
    replace F₁ : Fr hh L' h _ := F₁
    replace N₁ : News hh L' h _ := N₁
    k_steps
    (with_reducible rename Fr _ _ _ _ => Fz)
    (with_reducible rename News _ _ _ _ => Nz)
    (with_reducible rename Ents _ _ => Ez)
    refine InvEndN.intro (nx := [(x, ctrO dx (List.toArray ?zze) ?zzn), (dx, dictOf [] 0)]) Fz Nz ?zzj rfl ?zza ?zzb
    case zza =>
      intro q hq
      simp only [List.mem_cons, List.not_mem_nil, or_false] at hq
      rcases hq with rfl | rfl
      · exact .head _
      · exact .tail _ (.head _)
    case zzb =>
      intro q hq
      exact .tail _ (.tail _ hq)
    case zzj => exact ⟨fun z hz => by simp [hz], _, _, rfl, by rw [cnt_take (k := ns[i]) (by simp [hik])]; exact Ez⟩
  · rintro u news₁ h tk ⟨es, n, rfl, he⟩ F₁ N₁
    replace F₁ : Fr hh L' h _ := F₁
    replace N₁ : News hh L' h _ := N₁
    dsimp only
    k_steps
    refine ⟨rfl, hQ x dx es n h tk F₁.keep (hn _ (.head _)).2 (hn _ (.tail _ (.head _))).2 (N₁.get (.tail _ (.head _))) (N₁.get (.head _)) ?_ hsys⟩
    have := hi.length
    rw [this, List.take_length] at he
    exact he

end

section
open PySem PySem.W PySem.Calls PyProof.Rows
set_option maxHeartbeats 4000000
section
variable {prog : Program} {w : World} {A : Around} {E : Value → Shared → Prop} {s : Shared} {x dx d L : Addr} {b : Bool} {o : Obj} {h₀ : Heap} {m : Str → Option Value} {news : List (Addr × Obj)} {es : List DictEntry} {n : Nat} {c : List (Int × Int)} {k : Int} {t u : Tok}
theorem DAt.isi {Q : Value → Shared → Prop} (D : DAt s.heap b d o es n c) (X : (KF w).In s.heap) (h : Q (.bool true) s) : wpAny (model prog w) A (call (.builtin "isinstance") [.ref d, .type "dict"]) Q E s := by
  refine call_isinstance_of ?_ (by intro e; cases e)
  obtain ⟨hh, g, dr, tt, os⟩ := s
  have t1 := D.type (M := model prog w)
  have L1 : Looks (model prog w) hh (typeOf (.type "dict")) (.type "type") := Looks.of_pure f2
  have L3 : Looks (model prog w) hh (isInstance (.ref d) (.type "dict")) true := D.isd X
  unfold Builtin.«isinstance.nested»
  refine wpAny_bind (t1.at ?_)
  cases b with
  | false =>
    rw [if_pos (by decide)]
    repeat lk
    exact h
  | true =>
    rw [if_neg (by decide)]
    refine wpAny_bind (L1.at ?_)
    rw [if_pos (by decide)]
    k_delta "plainIsInstance"
    unfold isType
    repeat lk
    exact h
theorem line_isi {Q : Value → Shared → Prop} (F : Fr h₀ L s.heap m) (X : (hd.heap_39 w.params).In h₀) (D : DAt h₀ b d o es n c) (h : Q (.bool true) s) : wpAny (model prog w) A (call (.builtin "isinstance") [.ref d, .type "dict"]) Q E s :=
  (D.keep F.keep).isi (X.keeps F.keep) h
theorem line_item {v : Int} {Q : Value → Shared → Prop} (F : Fr h₀ L s.heap m) (X : (hd.heap_39 w.params).In h₀) (D : DAt h₀ b d o es n c) (hv : cget c k = some v) (h : ∀ u, Q (.int v u) { s with toks := s.toks + 1 }) : wpAny (model prog w) A (getItem (.ref d) (.int k t)) Q E s :=
  (D.keep F.keep).getItem (X.keeps F.keep) hv h
theorem py_getitem (D : DAt s.heap b d o es n c) (X : (KF w).In s.heap) {Q : Bool → Shared → Prop} (h : Q false s) : wpAny (model prog w) A (getitemInPython (.ref d)) Q E s := by
  unfold getitemInPython
  exact wpAny_bind ((D.special X (kd_getitem w b)).here (wpAny_pure h))
theorem line_sub {v : Int} {value slice : PySem.Expr} {Q : Value → Shared → Prop} (F : Fr h₀ L s.heap m) (X : (hd.heap_39 w.params).In h₀) (D : DAt h₀ b d o es n c) (hv : cget c k = some v) (h : ∀ u, Q (.int v u) { s with toks := s.toks + 1 })
    (hs : subscripted slice false (.ref d) (.int k t) = operate [.ref d, .int k t] (getItem (.ref d) (.int k t)) := by with_unfolding_all rfl) : wpAny (model prog w) A (subscriptTail value slice (.ref d) (.int k t)) Q E s := by
  have D' := D.keep F.keep
  have X' := X.keeps F.keep
  have hg := D'.getItem (prog := prog) (A := A) (E := E) (t := t) X' hv h
  unfold subscriptTail
  refine wpAny_bind (py_getitem D' X' ?_)
  rw [hs]
  exact wpAny_bind (wpAny_operating (wpAny_mono hg (fun r s₃ h₃ => wpAny_bind (wpAny_letTemporaryGo (wpAny_pure h₃))) fun _ _ x => x))
end

end

open PySem PySem.W PySem.Calls PyProof.Rows
local macro_rules | `(tactic| walk_at "call builtin:isinstance") => `(tactic| (k_here; (with_reducible show wpAny _ _ (call _ [Value.ref _, Value.type _]) _ _ _); refine' line_isi ?F ?X ?D ?_; (case F => k_asm); (case X => k_asm); (case D => assumption)))
local macro_rules | `(tactic| walk_at "subscriptTail") => `(tactic| (k_here; (with_reducible show wpAny _ _ (subscriptTail _ _ (Value.ref _) (Value.int _ _)) _ _ _); refine' line_sub ?F ?X ?D ?v ?_ ?s; (case F => k_asm); (case X => k_asm); (case D => assumption); (case v => assumption); (case s => with_unfolding_all rfl); intro u'))
local macro_rules | `(tactic| walk_at "exec For Name Name cons nil") => `(tactic| (k_here; (have xD := DAt.cls (by assumption)); clear xD; (with_reducible rename Fr _ _ _ _ => lF'); (with_unfolding_all refine' For_invVF lF' ?k1 ?k2 ?_; (case k1 => exact rfl); (case k2 => exact rfl); k_whole)))

section
open PySem PySem.W PySem.Calls PyProof.Rows
set_option maxHeartbeats 4000000
/-- the rows of a copy -/
def cpy (c : List (Int × Int)) (l : List (Int × Int)) : List (Int × Int) := l.foldl (fun acc p => cput acc p.1 ((cget c p.1).getD 0)) []
theorem cpy_take {c l : List (Int × Int)} {i : Nat} {k v : Int} (h : l[i]? = some (k, v)) : cpy c (l.take (i + 1)) = cput (cpy c (l.take i)) k ((cget c k).getD 0) := by
  unfold cpy
  rw [List.take_add_one, h]
  simp
theorem cpy_len (c l : List (Int × Int)) : (cpy c l).length ≤ l.length := by
  have : ∀ (l acc : List (Int × Int)), (l.foldl (fun acc p => cput acc p.1 ((cget c p.1).getD 0)) acc).length ≤ acc.length + l.length := by
    intro l
    induction l with
    | nil => intro c; simp
    | cons a l ih =>
      intro acc
      rw [List.foldl_cons, List.length_cons]
      have := ih (cput acc a.1 ((cget c a.1).getD 0))
      have := cput_length acc a.1 ((cget c a.1).getD 0)
      omega
  simpa [cpy] using this l []
theorem cget_mem {c : List (Int × Int)} {k v : Int} (h : (k, v) ∈ c) : ∃ u, cget c k = some u := by
  induction c with
  | nil => cases h
  | cons p r ih =>
    obtain ⟨a, b⟩ := p
    unfold cget
    by_cases e : a = k
    · exact ⟨b, by simp [e]⟩
    · rcases List.mem_cons.mp h with h | h
      · cases h; exact absurd rfl e
      · obtain ⟨u, hu⟩ := ih h
        exact ⟨u, by simp [e, hu]⟩
theorem ctr_dict {prog : Program} {w : World} {A : Around} {p : Program} {loose : List Str} {mg mb : Str → Option Value} {s : Shared} {Q E : Value → Shared → Prop} {tp : Addr} {b : Bool} {o : Obj} {es0 : List DictEntry} {n0 : Nat} {c : List (Int × Int)}
    (X : (hd.heap_39 w.params).In s.heap) (T : TopRead p loose mg mb s.heap) (hA : A.handled = none) (hd : A.depth + 10 < recursionLimit) (hu : A.units + 40 < cLine)
    (D : DAt s.heap b tp o es0 n0 c) (hsz : c.length ≤ 1000)
    (hQ : ∀ x dx es n h' tk, (∀ b o, s.heap.get? b = some o → h'.get? b = some o) → s.heap.get? x = none → s.heap.get? dx = none → h'.get? dx = some (dictOf [] 0) → h'.get? x = some (ctrO dx es.toArray n) → Ents es (cpy c c) → (x == sysModules) = false → Q (.ref x) { s with heap := h', toks := tk }) :
    wpAny (model prog w) A (call (.ref 74) [.ref tp]) Q E s := by
  refine wpAny_call ?_
  obtain ⟨hh, g, d, t, os⟩ := s
  dsimp only at X T D
  refine makeD_core (makesD_of X) (looks_findIn X (k_init w)) (fun self => bind_fn X self (k_fn37 w)) ?_
  generalize hx : hh.objs.size + 1 = x
  generalize hdx : hh.objs.size = dx
  have hk : ∀ b o, hh.get? b = some o → ((hh.push emptyDict).push (ctrO dx #[] 0)).get? b = some o := fun b o e => Heap.get?_push_of_some _ (Heap.get?_push_of_some _ e)
  have hz : hh.objs.size ≤ ((hh.push emptyDict).push (ctrO dx #[] 0)).objs.size := by simp only [Heap.size_push]; omega
  have hn : ∀ q ∈ [(x, ctrO dx #[] 0), (dx, dictOf [] 0)], ((hh.push emptyDict).push (ctrO dx #[] 0)).get? q.1 = some q.2 ∧ hh.get? q.1 = none := by
    subst hx hdx
    intro q hq
    simp only [List.mem_cons, List.not_mem_nil, or_false] at hq
    rcases hq with rfl | rfl
    · exact ⟨by heap_get, Heap.get?_none_of_le (by omega)⟩
    · exact ⟨by heap_get, Heap.get?_none_of_le (Nat.le_refl _)⟩
  have hsys : (x == sysModules) = false := by
    have hlt : (74 : Nat) < hh.objs.size := Heap.lt_size (X 74 _ rfl)
    have : (x : Nat) ≠ 1 := by omega
    simpa [sysModules] using this
  generalize hh1 : (hh.push emptyDict).push (ctrO dx #[] 0) = h1 at hk hz hn
  have X1 := X.keeps hk
  have T1 := T.keeps hk
  clear hh1
  walk_at "m_enter"
  intro L' h₁ F N hk₁
  k_steps
  (with_reducible rename Fr _ _ _ _ => lF)
  refine' iter_dat (fun i nx => ∃ es n, nx = [(x, ctrO dx es.toArray n), (dx, dictOf [] 0)] ∧ Ents es (cpy c (c.take i))) ?jh ?jD ?jX ?jF ?jN ?jj ?_ ?_
  case jh => exact hA
  case jD => exact D
  case jX => exact X
  case jF => exact lF
  case jN => exact N
  case jj => exact ⟨[], 0, rfl, .nil⟩
  · rintro i k v t' news₁ h tk own hv hadr hoff ⟨es, n, rfl, he⟩ F₁ N₁
    have hz1 : (cpy c (c.take i)).length ≤ 1000 := by
      have := cpy_len c (c.take i)
      rw [List.length_take] at this
      omega
    obtain ⟨v', hv'⟩ := cget_mem (List.mem_of_getElem? hv)
    replace F₁ : Fr hh L' h _ := F₁
    replace N₁ : News hh L' h _ := N₁
    k_steps
    (with_reducible rename Fr _ _ _ _ => Fz)
    (with_reducible rename News _ _ _ _ => Nz)
    (with_reducible rename Ents _ _ => Ez)
    refine InvEndN.intro (nx := [(x, ctrO dx (List.toArray ?zze) ?zzn), (dx, dictOf [] 0)]) Fz Nz ?zzj rfl ?zza ?zzb
    case zza =>
      intro q hq
      simp only [List.mem_cons, List.not_mem_nil, or_false] at hq
      rcases hq with rfl | rfl
      · exact .head _
      · exact .tail _ (.head _)
    case zzb =>
      intro q hq
      exact .tail _ (.tail _ hq)
    case zzj => exact ⟨fun z hz => by simp [hz], _, _, rfl, by rw [cpy_take hv, hv']; exact Ez⟩
  · rintro u news₁ h tk ⟨es, n, rfl, he⟩ F₁ N₁
    replace F₁ : Fr hh L' h _ := F₁
    replace N₁ : News hh L' h _ := N₁
    dsimp only
    k_steps
    refine ⟨rfl, hQ x dx es n h tk F₁.keep (hn _ (.head _)).2 (hn _ (.tail _ (.head _))).2 (N₁.get (.tail _ (.head _))) (N₁.get (.head _)) ?_ hsys⟩
    rw [List.take_length] at he
    exact he

end

section
open PySem PySem.W PySem.Calls PyProof.Rows
set_option maxHeartbeats 4000000
section
variable {prog : Program} {w : World} {A : Around} {s : Shared} {R : Result → Shared → Prop} {name qual : Str} {params : Arguments} {body : List Stmt} {scope : Scope} {dV kV doc pm cdv ct oc : Value} {an od : Option Addr} {osl : Array (Option Value)} {f : Addr} {args : Args} {binds : List (Str × Value)}
  {p : Program} {loose : List Str} {mg mb : Str → Option Value}
/-- into a def with cells; the base is the whole heap at the call -/
theorem enterC (X : (hd.heap_39 w.params).In s.heap) (T : TopRead p loose mg mb s.heap)
    (ho : (hd.heap_39 w.params).lookup f = some ⟨oc, od, .func (fnOf name qual params body scope dV kV doc pm an cdv ct), osl⟩) (hcd : codeIn (hd.heap_39 w.params) cdv qual = true) (hroom : A.depth < recursionLimit)
    (hbind : BindsTo s (fnOf name qual params body scope dV kV doc pm an cdv ct) args binds) (hkind : (binds.all fun y => scope.names.lookup y.1 == some .local || scope.names.lookup y.1 == some .cell) = true)
    (hnd : ((cellsFrom 0 scope.names []).map (·.1)).Nodup)
    (h : ∀ L' h₁ tk cells, Fr s.heap L' h₁ (bindL (envOfC qual scope L' f cdv).kindOf binds fun _ => none) → News s.heap L' h₁ cells →
      CellsAre (bindC (envOfC qual scope L' f cdv).kindOf binds fun _ => none) (cellsFrom (L' + 1) scope.names []) cells → (∀ n c, (n, c) ∈ cellsFrom (L' + 1) scope.names [] → L' < c) → s.heap.objs.size = L' →
      wpAny (model prog w) (A.deeper (envOfC qual scope L' f cdv)) (execs body (envOfC qual scope L' f cdv))
        (fun fl s' => R (.ok (.ret (match fl with | .ret v => v | _ => .none))) s')
        (fun e s' => wpAny (model prog w) (A.deeper (envOfC qual scope L' f cdv)) (leaving (envOfC qual scope L' f cdv) e) (fun _ s'' => R (.error e) s'') (fun e' s'' => R (.error e') s'') s')
        { s with heap := h₁, toks := tk })
    (hco : scope.isCoroutine = false) (hgen : scope.isGenerator = false) (hk : scope.kind = .function) : codeAny (model prog w) A (.call (.ref f) args) R s := by
  refine codeAny_call_function hroom (X _ _ ho) rfl hco hgen rfl (codeRec_of X hcd) (hbind _ _ _ _ ?_)
  refine wpAny_newFunctionEnv_cells hk (kindsX hkind _) fun env' he s' x => ?_
  subst he
  refine ⟨(T.nolimit).keeps x.toInCall.keep, codeAny_func ?_⟩
  obtain ⟨h₁, tk, rfl, _⟩ := x.done
  have hk₁ := x.toInCall.keep
  have hab : ∀ n c, (n, c) ∈ cellsFrom (s.heap.objs.size + 1) scope.names [] → s.heap.objs.size < c := x.above
  obtain ⟨cells, NC, Y⟩ := Cl.news (h₀ := s.heap) (Nat.le_refl _) fun n c hm => ⟨x.cell n c (lookup_of_mem_nodup (cellsFrom_names scope.names 0 (s.heap.objs.size + 1) [] [] rfl ▸ hnd) hm), x.above n c hm⟩
  exact h s.heap.objs.size h₁ tk cells ⟨x.toInCall.ns, hk₁, Nat.le_refl _⟩ NC Y hab rfl
end

end

section
open PySem PySem.W PySem.Calls PyProof.Rows
set_option maxHeartbeats 4000000
section
variable {prog : Program} {w : World} {A : Around} {E : Value → Shared → Prop} {s : Shared} {x dx d L : Addr} {b : Bool} {o : Obj} {h₀ : Heap} {m : Str → Option Value} {news : List (Addr × Obj)} {es : List DictEntry} {n : Nat} {c : List (Int × Int)} {k : Int} {t u : Tok} {p : Program} {loose : List Str} {mg mb : Str → Option Value}
theorem fr_grow {h h' : Heap} (F : Fr h₀ L h m) (k : ∀ b o, h.get? b = some o → h'.get? b = some o) : Fr h₀ L h' m := ⟨F.ns.keeps k, fun b o e => k b o (F.keep b o e), F.above⟩
theorem news_grow {h h' : Heap} (N : News h₀ L h news) (k : ∀ b o, h.get? b = some o → h'.get? b = some o) : News h₀ L h' news := fun p hp => ⟨k _ _ (N p hp).1, (N p hp).2⟩
theorem news_add {h h' : Heap} (F : Fr h₀ L h m) (N : News h₀ L h' news) (hx : h.get? x = none) (hx' : h'.get? x = some o) : News h₀ L h' ((x, o) :: news) := by
  intro p hp
  rcases List.mem_cons.mp hp with rfl | hp
  · refine ⟨hx', ?_, ?_⟩
    · rintro rfl
      obtain ⟨oL, _, _, hL, _⟩ := F.ns
      rw [hL] at hx; cases hx
    · cases hq : h₀.get? x with
      | none => rfl
      | some o' => rw [F.keep _ _ hq] at hx; cases hx
  · exact N p hp
/-- a copy's rows, once the keys are apart -/
theorem cput_new {c : List (Int × Int)} {k v : Int} (h : k ∉ c.map (·.1)) : cput c k v = c ++ [(k, v)] := by
  induction c with
  | nil => rfl
  | cons p r ih =>
    obtain ⟨a, b⟩ := p
    simp only [List.map_cons, List.mem_cons, not_or] at h
    unfold cput
    rw [if_neg (fun e => h.1 e.symm), ih h.2]
    rfl
theorem cget_of_nodup {c : List (Int × Int)} (hn : (c.map (·.1)).Nodup) {k v : Int} (h : (k, v) ∈ c) : cget c k = some v := by
  induction c with
  | nil => cases h
  | cons p r ih =>
    obtain ⟨a, b⟩ := p
    simp only [List.map_cons, List.nodup_cons] at hn
    unfold cget
    rcases List.mem_cons.mp h with h | h
    · cases h; simp
    · have : a ≠ k := by
        rintro rfl
        exact hn.1 (List.mem_map_of_mem (f := (·.1)) h)
      rw [if_neg this]; exact ih hn.2 h
theorem cpy_id {c : List (Int × Int)} (hn : (c.map (·.1)).Nodup) : cpy c c = c := by
  have : ∀ (l acc : List (Int × Int)), ((acc ++ l).map (·.1)).Nodup → (∀ p ∈ l, p ∈ c) → l.foldl (fun acc p => cput acc p.1 ((cget c p.1).getD 0)) acc = acc ++ l := by
    intro l
    induction l with
    | nil => intro acc _ _; simp
    | cons a l ih =>
      intro acc h1 h2
      rw [List.foldl_cons]
      have e1 : cget c a.1 = some a.2 := cget_of_nodup hn (h2 a (.head _))
      have e2 : a.1 ∉ acc.map (·.1) := by
        rw [List.map_append, List.map_cons, List.nodup_append] at h1
        intro hm
        exact h1.2.2 _ hm _ (.head _) rfl
      rw [e1, Option.getD_some, cput_new e2]
      have := ih (acc ++ [(a.1, a.2)]) (by simpa using h1) (fun p hp => h2 p (.tail _ hp))
      rw [this]; simp
  simpa [cpy] using this c [] (by simpa using hn) (fun p hp => hp)
theorem use_ctr_dict {Q : Value → Shared → Prop} (F : Fr h₀ L s.heap m) (N : News h₀ L s.heap news) (X : (hd.heap_39 w.params).In h₀) (T : TopRead p loose mg mb h₀) (hA : A.handled = none) (hd : A.depth + 10 < recursionLimit) (hu : A.units + 40 < cLine)
    (D : DAt s.heap b d o es n c) (hn : (c.map (·.1)).Nodup) (hsz : c.length ≤ 1000)
    (h : ∀ x dx es' n' h' tk, Fr h₀ L h' m → News h₀ L h' ((x, ctrO dx es'.toArray n') :: (dx, dictOf [] 0) :: news) → Ents es' c → (x == sysModules) = false → Q (.ref x) { s with heap := h', toks := tk }) :
    wpAny (model prog w) A (call (.ref 74) [.ref d]) Q E s :=
  ctr_dict (X.keeps F.keep) (T.keeps F.keep) hA hd hu D hsz fun x dx es' n' h' tk k hx hdx hdx' hx' he hs => h x dx es' n' h' tk (fr_grow F k) (news_add F (news_add F (news_grow N k) hdx hdx') hx hx') (cpy_id hn ▸ he) hs
theorem use_ctr_tuple {Q : Value → Shared → Prop} {vs : List Value} {ns : List Int} (F : Fr h₀ L s.heap m) (N : News h₀ L s.heap news) (X : (hd.heap_39 w.params).In h₀) (T : TopRead p loose mg mb h₀) (hA : A.handled = none) (hd : A.depth + 10 < recursionLimit) (hu : A.units + 40 < cLine)
    (D : s.heap.IsTuple d vs.toArray) (hi : IntsAre vs ns) (hsz : ns.length ≤ 1000)
    (h : ∀ x dx es' n' h' tk, Fr h₀ L h' m → News h₀ L h' ((x, ctrO dx es'.toArray n') :: (dx, dictOf [] 0) :: news) → Ents es' (cnt ns) → (x == sysModules) = false → Q (.ref x) { s with heap := h', toks := tk }) :
    wpAny (model prog w) A (call (.ref 74) [.ref d]) Q E s :=
  ctr_tuple (X.keeps F.keep) (T.keeps F.keep) hA hd hu D hi hsz fun x dx es' n' h' tk k hx hdx hdx' hx' he hs => h x dx es' n' h' tk (fr_grow F k) (news_add F (news_add F (news_grow N k) hdx hdx') hx hx') he hs
/-- a Counter of the heap, as a value is known to others -/
structure CAt (h : Heap) (x : Addr) (c : List (Int × Int)) : Prop where
  ex : ∃ dx es n, h.get? x = some (ctrO dx es.toArray n) ∧ h.get? dx = some (dictOf [] 0) ∧ Ents es c
  sys : (x == sysModules) = false
  nodup : (c.map (·.1)).Nodup
  small : c.length ≤ 1000
theorem CAt.dat {h : Heap} (C : CAt h x c) : ∃ dx es n, DAt h true x (ctrO dx es.toArray n) es n c ∧ h.get? dx = some (dictOf [] 0) :=
  let ⟨dx, es, n, h1, h2, h3⟩ := C.ex; ⟨dx, es, n, ⟨h1, rfl, rfl, h3, C.sys⟩, h2⟩
theorem CAt.keep {h h' : Heap} (C : CAt h x c) (k : ∀ b o, h.get? b = some o → h'.get? b = some o) : CAt h' x c :=
  let ⟨dx, es, n, h1, h2, h3⟩ := C.ex; ⟨⟨dx, es, n, k _ _ h1, k _ _ h2, h3⟩, C.sys, C.nodup, C.small⟩
end

end

section
open PySem PySem.W PySem.Calls PyProof.Rows
set_option maxHeartbeats 4000000
structure CNew (h h' : Heap) (x : Addr) (c : List (Int × Int)) : Prop where
  ex : ∃ dx es n, h.get? x = none ∧ h.get? dx = none ∧ h'.get? x = some (ctrO dx es.toArray n) ∧ h'.get? dx = some (dictOf [] 0) ∧ Ents es c
  sys : (x == sysModules) = false
  nodup : (c.map (·.1)).Nodup
  small : c.length ≤ 1000
theorem CNew.at {h h' : Heap} {x : Addr} {c : List (Int × Int)} (C : CNew h h' x c) : CAt h' x c := let ⟨dx, es, n, _, _, h3, h4, h5⟩ := C.ex; ⟨⟨dx, es, n, h3, h4, h5⟩, C.sys, C.nodup, C.small⟩
theorem CNew.keep {h h' h'' : Heap} {x : Addr} {c : List (Int × Int)} (C : CNew h h' x c) (k : ∀ b o, h'.get? b = some o → h''.get? b = some o) : CNew h h'' x c := let ⟨dx, es, n, h1, h2, h3, h4, h5⟩ := C.ex; ⟨⟨dx, es, n, h1, h2, k _ _ h3, k _ _ h4, h5⟩, C.sys, C.nodup, C.small⟩
theorem get_none {h h' : Heap} {x : Addr} (k : ∀ b o, h.get? b = some o → h'.get? b = some o) (e : h'.get? x = none) : h.get? x = none := by
  cases q : h.get? x with
  | none => rfl
  | some o => rw [k _ _ q] at e; cases e
theorem CNew.elder {h₀ h h' : Heap} {x : Addr} {c : List (Int × Int)} (C : CNew h h' x c) (k : ∀ b o, h₀.get? b = some o → h.get? b = some o) : CNew h₀ h' x c := let ⟨dx, es, n, h1, h2, h3, h4, h5⟩ := C.ex; ⟨⟨dx, es, n, get_none k h1, get_none k h2, h3, h4, h5⟩, C.sys, C.nodup, C.small⟩
/-- the tree ends, and gives a fresh Counter of c; what stood stands -/
def GivesC (M : Model) (A : Around) (s : Shared) (t : Sem Value) (c : List (Int × Int)) : Prop :=
  ∀ (Q E : Value → Shared → Prop), (∀ x h' tk, (∀ b o, s.heap.get? b = some o → h'.get? b = some o) → CNew s.heap h' x c → Q (.ref x) { s with heap := h', toks := tk }) → wpAny M A t Q E s
section
variable {prog : Program} {w : World} {A : Around} {E : Value → Shared → Prop} {s : Shared} {L : Addr} {h₀ : Heap} {m : Str → Option Value} {news : List (Addr × Obj)} {c : List (Int × Int)} {p : Program} {loose : List Str} {mg mb : Str → Option Value}
theorem GivesC.use {M : Model} {tr : Sem Value} {Q : Value → Shared → Prop} (G : GivesC M A s tr c) (F : Fr h₀ L s.heap m) (N : News h₀ L s.heap news)
    (h : ∀ x dx es n h' tk, Fr h₀ L h' m → News h₀ L h' ((x, ctrO dx es.toArray n) :: (dx, dictOf [] 0) :: news) → Ents es c → (x == sysModules) = false → Q (.ref x) { s with heap := h', toks := tk }) : wpAny M A tr Q E s :=
  G _ _ fun x h' tk k C => by
    obtain ⟨dx, es, n, h1, h2, h3, h4, h5⟩ := C.ex
    exact h x dx es n h' tk (fr_grow F k) (news_add F (news_add F (news_grow N k) h2 h4) h1 h3) h5 C.sys
theorem cnt_nodup (ns : List Int) : ((cnt ns).map (·.1)).Nodup := by
  have hp : ∀ (c : List (Int × Int)) (k v : Int), (c.map (·.1)).Nodup → ((cput c k v).map (·.1)).Nodup ∧ ∀ a, a ∈ (cput c k v).map (·.1) → a = k ∨ a ∈ c.map (·.1) := by
    intro c k v h
    induction c with
    | nil => exact ⟨by simp [cput], by simp [cput]⟩
    | cons p r ih =>
      obtain ⟨a, b⟩ := p
      simp only [List.map_cons, List.nodup_cons] at h
      unfold cput
      by_cases e : a = k
      · rw [if_pos e]
        exact ⟨by simpa using h, fun z hz => .inr hz⟩
      · rw [if_neg e]
        obtain ⟨i1, i2⟩ := ih h.2
        refine ⟨?_, ?_⟩
        · simp only [List.map_cons, List.nodup_cons]
          refine ⟨fun hm => ?_, i1⟩
          rcases i2 _ hm with h1 | h1
          · exact e h1
          · exact h.1 h1
        · intro z hz
          simp only [List.map_cons, List.mem_cons] at hz ⊢
          rcases hz with rfl | hz
          · exact .inr (.inl rfl)
          · rcases i2 _ hz with h1 | h1
            · exact .inl h1
            · exact .inr (.inr h1)
  have : ∀ (l : List Int) (c : List (Int × Int)), (c.map (·.1)).Nodup → ((l.foldl (fun c k => cput c k ((cget c k).getD 0 + 1)) c).map (·.1)).Nodup := by
    intro l
    induction l with
    | nil => intro c h; exact h
    | cons a l ih => intro c h; rw [List.foldl_cons]; exact ih _ (hp _ _ _ h).1
  exact this ns [] (by simp)
theorem gives_tuple {tp : Addr} {vs : List Value} {ns : List Int} (X : (hd.heap_39 w.params).In s.heap) (T : TopRead p loose mg mb s.heap) (hA : A.handled = none) (hd : A.depth + 10 < recursionLimit) (hu : A.units + 40 < cLine)
    (ht : s.heap.IsTuple tp vs.toArray) (hi : IntsAre vs ns) (hsz : ns.length ≤ 1000) : GivesC (model prog w) A s (call (.ref 74) [.ref tp]) (cnt ns) := fun Q E hQ =>
  ctr_tuple X T hA hd hu ht hi hsz fun x dx es n h' tk k h1 h2 h3 h4 h5 h6 => hQ x h' tk k ⟨⟨dx, es, n, h1, h2, h4, h3, h5⟩, h6, cnt_nodup ns, Nat.le_trans (cnt_len ns) hsz⟩
theorem gives_dict {d : Addr} {b : Bool} {o : Obj} {es : List DictEntry} {n : Nat} (X : (hd.heap_39 w.params).In s.heap) (T : TopRead p loose mg mb s.heap) (hA : A.handled = none) (hd : A.depth + 10 < recursionLimit) (hu : A.units + 40 < cLine)
    (D : DAt s.heap b d o es n c) (hn : (c.map (·.1)).Nodup) (hsz : c.length ≤ 1000) : GivesC (model prog w) A s (call (.ref 74) [.ref d]) c := fun Q E hQ =>
  ctr_dict X T hA hd hu D hsz fun x dx es n h' tk k h1 h2 h3 h4 h5 h6 => hQ x h' tk k ⟨⟨dx, es, n, h1, h2, h4, h3, cpy_id hn ▸ h5⟩, h6, hn, hsz⟩
end

end

open PySem PySem.W PySem.Calls PyProof.Rows
local macro_rules | `(tactic| walk_at "m_enterC") => `(tactic| (refine' enterC ?k1 ?k2 ?k6 ?k7 ?k8 ?k9 ?kB ?kD ?_ ?c2 ?c3 ?c4; (case k1 => assumption); (case k2 => assumption); (case k6 => k_is); (case k7 => k_is); (case k8 => k_room); (case k9 => first | exact BindsTo.of_eq rfl | exact binds_K (by assumption) rfl (by k_is) rfl rfl rfl | fail "m_enterC: no rule for these arguments"); (case kB => exact rfl); (case kD => decide +kernel); (case c2 => exact rfl); (case c3 => exact rfl); (case c4 => exact rfl)))
/-- the facts that a call's contract asks of the calling place -/
local macro_rules | `(tactic| walk_at "m_hand") => `(tactic| (first | assumption | (show Around.handled _ = none; simp only [Around.deeper, Around.under, Around.in1, Around.mark]; assumption) | (simp only [Around.deeper, Around.under, Around.in1, Around.mark]; assumption)))
local macro_rules | `(tactic| walk_at "m_units") => `(tactic| (first | assumption | ((try simp only [units_in1, units_deeper, Around.mark_units]); omega)))

section
open PySem PySem.W PySem.Calls PyProof.Rows
set_option maxHeartbeats 4000000
theorem gives_copy {prog : Program} {w : World} {A : Around} {p : Program} {loose : List Str} {mg mb : Str → Option Value} {s : Shared} {d : Addr} {c : List (Int × Int)}
    (X : (hd.heap_39 w.params).In s.heap) (T : TopRead p loose mg mb s.heap) (hA : A.handled = none) (hd : A.depth + 12 < recursionLimit) (hu : A.units + 50 < cLine)
    (C : CAt s.heap d c) : GivesC (model prog w) A s (call (.ref 44) [.ref d]) c := by
  intro Q E hQ
  refine wpAny_call ?_
  have hk : ∀ b o, s.heap.get? b = some o → s.heap.get? b = some o := fun _ _ e => e
  have hz : s.heap.objs.size ≤ s.heap.objs.size := Nat.le_refl _
  have hn : ∀ q ∈ ([] : List (Addr × Obj)), s.heap.get? q.1 = some q.2 ∧ s.heap.get? q.1 = none := fun _ h => nomatch h
  walk_at "m_enter"
  intro L' h₁ F N hk₁
  k_steps
  obtain ⟨dx, es, n, D, _⟩ := C.dat
  refine gives_dict (X.keeps F.keep) (T.keeps F.keep) (by exact hA) (by k_room) (by walk_at "m_units") (D.keep F.keep) C.nodup C.small _ _ ?_
  intro x h' tk k Cn
  k_steps
  exact hQ x h' tk (fun b o e => k b o (F.keep b o e)) (Cn.elder F.keep)

end

section
open PySem PySem.W PySem.Calls PyProof.Rows
set_option maxHeartbeats 4000000
inductive KV : List (Int × Value) → List (Int × Int) → Prop
  | nil : KV [] []
  | cons {k v : Int} {u : Tok} {kvs : List (Int × Value)} {c : List (Int × Int)} : KV kvs c → KV ((k, .int v u) :: kvs) ((k, v) :: c)
theorem KV.keys {kvs : List (Int × Value)} {c : List (Int × Int)} (h : KV kvs c) : kvs.map (·.1) = c.map (·.1) := by
  induction h with
  | nil => rfl
  | cons _ ih => simp [ih]
theorem KV.snoc {kvs : List (Int × Value)} {c : List (Int × Int)} (h : KV kvs c) (k v : Int) (u : Tok) : KV (kvs ++ [(k, .int v u)]) (c ++ [(k, v)]) := by
  induction h with
  | nil => exact .cons .nil
  | cons _ ih => exact .cons ih
theorem ints_snoc : ∀ {l : List Value} {v : Value} {ks : List Int}, IntsAre (l ++ [v]) ks → ∃ ks' k t, ks = ks' ++ [k] ∧ IntsAre l ks' ∧ v = .int k t
  | [], v, ks, h => by
    cases h with
    | cons k t h' => cases h'; exact ⟨[], _, _, rfl, .nil, rfl⟩
  | x :: l, v, ks, h => by
    cases h with
    | cons k t h' =>
      obtain ⟨ks', k', t', e, h1, h2⟩ := ints_snoc h'
      subst e
      exact ⟨_ :: ks', k', t', rfl, .cons _ _ h1, h2⟩
theorem ints_filter (pz : Int → Bool) : ∀ {l : List Value} {ks : List Int}, IntsAre l ks → IntsAre (l.filter fun v => match v with | .int a _ => pz a | _ => false) (ks.filter pz)
  | [], ks, h => by cases h; exact .nil
  | x :: l, ks, h => by
    cases h with
    | cons k t h' =>
      cases hp : pz k with
      | true => rw [List.filter_cons_of_pos (by simpa using hp), List.filter_cons_of_pos hp]; exact .cons _ _ (ints_filter pz h')
      | false => rw [List.filter_cons_of_neg (by simp [hp]), List.filter_cons_of_neg (by simp [hp])]; exact ints_filter pz h'
theorem stored_kv (f : Int → Int) {l : List Value} {kvs : List (Int × Value)} (h : StoredAll (fun v k => ∃ t, v = Value.int k t) (fun v y => ∃ k t u, v = Value.int k t ∧ y = Value.int (f k) u) l kvs) :
    ∀ ks : List Int, IntsAre l ks → ks.Nodup → KV kvs (ks.map fun k => (k, f k)) := by
  induction h with
  | nil => intro ks h _; cases h; exact .nil
  | snoc hr h1 h2 ih =>
    intro ks hi hn
    obtain ⟨ks', k, t, rfl, h3, rfl⟩ := ints_snoc hi
    obtain ⟨t1, e1⟩ := h1
    obtain ⟨k2, t2, u, e2, rfl⟩ := h2
    cases e2
    injection e1 with e3 _
    subst e3
    rw [List.nodup_append] at hn
    have hk := ih ks' h3 hn.1
    unfold stored
    split
    case isTrue hc =>
      exfalso
      obtain ⟨q, hq, he⟩ := List.any_eq_true.mp hc
      have hm : q.1 ∈ (ks'.map fun k => (k, f k)).map (·.1) := hk.keys ▸ List.mem_map_of_mem (f := (·.1)) hq
      have e3 : q.1 = k := by simpa using he
      rw [List.map_map] at hm
      obtain ⟨z, hz, e4⟩ := List.mem_map.mp hm
      exact hn.2.2 z hz k (by simp) (e4.trans e3)
    case isFalse =>
      rw [List.map_append]
      exact hk.snoc k (f k) u
theorem ents_of_pairs {prog : Program} {w : World} : ∀ {es : List DictEntry} {kvs : List (Int × Value)} {c : List (Int × Int)}, Pairs (intKind prog w) es kvs → (∀ e ∈ es, ∃ k, (intKind prog w).is k e.key = true ∧ e.hash = (intKind prog w).hash k) → KV kvs c → Ents es c
  | _, _, _, .nil, _, .nil => .nil
  | e :: es, _, _, .cons h1 h2 h3, hk, .cons hr => by
    obtain ⟨k', hk1, hk2⟩ := hk e (.head _)
    have e1 := (intKind prog w).inj _ _ _ hk1 h1
    dsimp only at e1 h1 h2
    obtain ⟨t, ht⟩ := Value.isInt_shape h1
    obtain ⟨eh, ek, ev⟩ := e
    dsimp only at ht h2 hk2
    subst ht h2 e1
    rw [hk2]
    exact .cons (ents_of_pairs h3 (fun e he => hk e (.tail _ he)) hr)
theorem ents_ints {es : List DictEntry} {c : List (Int × Int)} (h : Ents es c) : IntsAre (es.map (·.key)) (c.map (·.1)) := by
  induction h with
  | nil => exact .nil
  | cons _ ih => exact .cons _ _ ih
structure SysIn (h : Heap) : Prop where
  ex : ∃ o, h.get? sysModules = some o
theorem SysIn.keep {h h' : Heap} (S : SysIn h) (k : ∀ b o, h.get? b = some o → h'.get? b = some o) : SysIn h' := let ⟨o, e⟩ := S.ex; ⟨o, k _ _ e⟩
theorem SysIn.ne {h : Heap} (S : SysIn h) {D : Addr} (e : h.get? D = none) : (D == sysModules) = false := by
  obtain ⟨o, e'⟩ := S.ex
  have : D ≠ sysModules := by rintro rfl; rw [e'] at e; cases e
  simpa using this
section
variable {prog : Program} {w : World} {A : Around} {E : Value → Shared → Prop} {env : Env} {s : Shared}
/-- a dict comprehension over a dict's keys, ints to ints -/
theorem dictComp {kx vx iter : Expr} {x : Str} {px : Pos} {ifs : List Expr} {scope : Scope} {cl : List (Str × Addr)} {pos : Pos} {Q : Value → Shared → Prop} (pz : Int → Bool) (f : Int → Int) (hh : A.handled = none)
    (hclos : closureFor scope env = pure cl) (hcell : ∀ y ∈ scope.names, y.2 ≠ .cell) (hkind : scope.kind = .function)
    (hnames : ∀ y ∈ scope.names, y.2 = .local → scope.names.lookup y.1 = some .local) (hx : scope.names.lookup x = some .local)
    (h : wpAny (model prog w) A (eval iter env) (fun xv s₁ => ∃ d b o es n c, xv = .ref d ∧ DAt s₁.heap b d o es n c ∧ (KF w).In s₁.heap ∧ SysIn s₁.heap ∧ (c.map (·.1)).Nodup ∧ c.length ≤ 1000 ∧
      (∀ C k t s₃ m₃ E', k ∈ c.map (·.1) → s₃.heap.Ns C m₃ → m₃ x = some (.int k t) → (∀ b o, s₁.heap.get? b = some o → s₃.heap.get? b = some o) →
        wpAny (model prog w) A (forIn ifs true fun c r => if r = true then do let ok ← isTrue c (compEnvC scope cl C env) (eval c (compEnvC scope cl C env)); pure (ForInStep.yield ok) else pure (ForInStep.yield r))
          (fun ok s₄ => ok = pz k ∧ Keeps s₃ s₄) E' s₃) ∧
      (∀ C k t s₃ m₃ E', k ∈ c.map (·.1) → pz k = true → s₃.heap.Ns C m₃ → m₃ x = some (.int k t) → (∀ b o, s₁.heap.get? b = some o → s₃.heap.get? b = some o) →
        wpAny (model prog w) A (eval kx (compEnvC scope cl C env)) (fun y s₄ => (∃ u, y = .int k u) ∧ Keeps s₃ s₄) E' s₃) ∧
      (∀ C k t s₃ m₃ E', k ∈ c.map (·.1) → pz k = true → s₃.heap.Ns C m₃ → m₃ x = some (.int k t) → (∀ b o, s₁.heap.get? b = some o → s₃.heap.get? b = some o) →
        wpAny (model prog w) A (eval vx (compEnvC scope cl C env)) (fun y s₄ => (∃ u, y = .int (f k) u) ∧ Keeps s₃ s₄) E' s₃) ∧
      (∀ D h' tk o es n, s₁.heap.get? D = none → DAt h' false D o es n (((c.map (·.1)).filter pz).map fun k => (k, f k)) → (∀ b o, s₁.heap.get? b = some o → h'.get? b = some o) → Q (.ref D) { s₁ with heap := h', toks := tk })) E s)
    (hs : ∀ x, foldedSetIterable iter env x = pure x := by intro _; rfl) :
    wpAny (model prog w) A (eval (.DictComp kx vx [⟨.Name x px, iter, ifs, 0⟩] scope pos) env) Q E s := by
  refine wpAny_DictComp_free (intKind prog w) (fun v => match v with | .int a _ => pz a | _ => false) (fun v k => ∃ t, v = Value.int k t) (fun v y => ∃ k t u, v = Value.int k t ∧ y = Value.int (f k) u) hclos hcell hkind hnames hx
    (wpAny_mono h (fun xv s₁ h₁ => ?_) fun _ _ e => e) hs
  obtain ⟨d, b, o, es, n, c, rfl, D, X, S, hnd, hsz, ht, hk, hv, hQ⟩ := h₁
  refine D.iter X ?_
  have hne : d ≠ s₁.heap.objs.size := Nat.ne_of_lt (Heap.lt_size D.at_)
  have old : ∀ b o, s₁.heap.get? b = some o → b ∉ [s₁.heap.objs.size] ∧ (s₁.heap.push (kiter d 0 es.length n)).get? b = some o := fun b o e => ⟨by simpa using Nat.ne_of_lt (Heap.lt_size e), Heap.get?_push_of_some _ e⟩
  have row : ∀ (i : Nat) (v : Value), (∃ e : DictEntry, es[i]? = some e ∧ v = e.key) → ∃ k t, v = Value.int k t ∧ k ∈ c.map (·.1) := by
    rintro i v ⟨e, he, rfl⟩
    obtain ⟨k, v, t, u, h1, rfl⟩ := D.ents.row he
    exact ⟨k, t, rfl, List.mem_map_of_mem (f := (·.1)) (List.mem_of_getElem? h1)⟩
  refine ⟨s₁.heap.objs.size, [s₁.heap.objs.size, d], [s₁.heap.objs.size], es.length, _, _, rfl, kwalk hh s₁.heap.objs.size d hne es n, ?_, ⟨Heap.get?_push_size _ rfl, o, Heap.get?_push_of_some _ D.at_, D.data⟩, ?_, ⟨?_, ?_, ?_⟩, ?_⟩
  · have := D.ents.length; rw [sizeLine_eq]; omega
  · intro b hb
    rw [Heap.size_push]
    rcases List.mem_cons.mp hb with rfl | hb
    · exact Nat.lt_succ_self _
    · rw [List.mem_singleton.mp hb]; exact Nat.lt_succ_of_lt (Heap.lt_size D.at_)
  · intro C i v s₃ m₃ E' hP hn hm hkp
    obtain ⟨k, t, rfl, hmem⟩ := row i v hP
    exact ht C k t s₃ m₃ E' hmem hn hm fun b o e => hkp b o (old b o e).1 (old b o e).2
  · intro C i v s₃ m₃ E' hP hp hn hm hkp
    obtain ⟨k, t, rfl, hmem⟩ := row i v hP
    refine wpAny_mono (hk C k t s₃ m₃ E' hmem hp hn hm fun b o e => hkp b o (old b o e).1 (old b o e).2) ?_ fun _ _ e => e
    rintro y s₄ ⟨⟨u, rfl⟩, hkk⟩
    exact ⟨⟨k, intKind_is _ _ _ _, t, rfl⟩, hkk⟩
  · intro C i v s₃ m₃ E' hP hp hn hm hkp
    obtain ⟨k, t, rfl, hmem⟩ := row i v hP
    refine wpAny_mono (hv C k t s₃ m₃ E' hmem hp hn hm fun b o e => hkp b o (old b o e).1 (old b o e).2) ?_ fun _ _ e => e
    rintro y s₄ ⟨⟨u, rfl⟩, hkk⟩
    exact ⟨⟨k, t, u, rfl, rfl⟩, hkk⟩
  · intro D' h' tk kvs vs hD' hdo hlen hP hst hkp
    have hvs : vs = es.map (·.key) := by
      refine List.ext_getElem? fun j => ?_
      rw [List.getElem?_map]
      cases hj : vs[j]? with
      | some v =>
        obtain ⟨e, he, rfl⟩ := hP j v hj
        rw [he]; rfl
      | none =>
        have : vs.length ≤ j := by simpa using hj
        rw [List.getElem?_eq_none (by omega)]; rfl
    subst hvs
    have hkv := stored_kv f hst _ (ints_filter pz (ents_ints D.ents)) (hnd.filter _)
    obtain ⟨od, es', ep, ho, hex, hdat, hkeys, hpairs, _⟩ := hdo
    have hE := ents_of_pairs hpairs (fun e he => hkeys e (by simpa using he)) hkv
    refine hQ D' h' tk od es'.toList ep (get_none (fun b o e => (old b o e).2) hD') ⟨ho, hex.1, by simpa using hdat, hE, ?_⟩ fun b o e => hkp b o (old b o e).1 (old b o e).2
    exact S.ne (get_none (fun b o e => (old b o e).2) hD')
end

end

section
open PySem PySem.W PySem.Calls PyProof.Rows
set_option maxHeartbeats 4000000
section
variable {M : Model} {prog : Program} {w : World} {A : Around} {E : Value → Shared → Prop} {env : Env} {s : Shared} {scope : Scope} {cl : List (Str × Addr)} {C c d : Addr} {m mg mb : Str → Option Value} {x : Str} {pos : Pos} {v : Value} {o : Obj} {Q : Value → Shared → Prop} {p : Program} {loose : List Str}
  {b : Bool} {es : List DictEntry} {n : Nat} {cc : List (Int × Int)} {k : Int} {t : Tok}
theorem nm_local (hn : s.heap.Ns C m) (hv : m x = some v) (h : Q v s) (hk : (compEnvC scope cl C env).scope.kind = .function := by rfl) (hl : (compEnvC scope cl C env).kindOf x = some .local := by rfl) (hd : (x == ("__debug__" : Str)) = false := by decide) :
    wpAny M A (eval (.Name x pos) (compEnvC scope cl C env)) Q E s := wpAny_Name (wpAny_loadName_local hk hl hn hv h) hd
theorem nm_cell (hc : cl.lookup x = some c) (ho : s.heap.get? c = some o) (hd : o.data = .cell (some v)) (h : Q v s) (hk : (compEnvC scope cl C env).scope.kind = .function := by rfl) (hl : (compEnvC scope cl C env).kindOf x = some .cell := by rfl) (hb : (x == ("__debug__" : Str)) = false := by decide) :
    wpAny M A (eval (.Name x pos) (compEnvC scope cl C env)) Q E s := wpAny_Name (wpAny_loadName_cell hk hl hc ⟨o, ho, hd⟩ h) hb
theorem nm_builtin (X : (hd.heap_39 w.params).In s.heap) (T : TopRead p loose mg mb s.heap) (e : nsIn (hd.heap_39 w.params) mainGlobals x = some none) (hv : bootBuiltins x = some v) (hn : x ≠ "__name__") (h : Q v s)
    (hg : env.globals = mainGlobals := by rfl) (hbb : env.builtins = builtinsNs := by rfl) (hk : (compEnvC scope cl C env).scope.kind = .function := by rfl) (hl : (compEnvC scope cl C env).kindOf x = some .globalImplicit := by rfl) (hb : (x == ("__debug__" : Str)) = false := by decide) :
    wpAny M A (eval (.Name x pos) (compEnvC scope cl C env)) Q E s :=
  Name_function_global hk hl (loadGlobal_builtin (env := compEnvC scope cl C env) (by show s.heap.Ns env.globals mg; rw [hg]; exact T.g) (mg_none_of X T.g e) (by show s.heap.Ns env.builtins mb; rw [hbb]; exact T.b) ((T.builtins x hn).trans hv) h) hb
theorem ln_sub {v : Int} {value slice : PySem.Expr} (X : (hd.heap_39 w.params).In s.heap) (D : DAt s.heap b d o es n cc) (hv : cget cc k = some v) (h : ∀ u, Q (.int v u) { s with toks := s.toks + 1 })
    (hs : subscripted slice false (.ref d) (.int k t) = operate [.ref d, .int k t] (getItem (.ref d) (.int k t)) := by with_unfolding_all rfl) : wpAny (model prog w) A (subscriptTail value slice (.ref d) (.int k t)) Q E s := by
  have hg := D.getItem (prog := prog) (A := A) (E := E) (t := t) X hv h
  unfold subscriptTail
  refine wpAny_bind (py_getitem D X ?_)
  rw [hs]
  exact wpAny_bind (wpAny_operating (wpAny_mono hg (fun r s₃ h₃ => wpAny_bind (wpAny_letTemporaryGo (wpAny_pure h₃))) fun _ _ x => x))
theorem ln_in_yes {v : Int} (X : (hd.heap_39 w.params).In s.heap) (D : DAt s.heap b d o es n cc) (hv : cget cc k = some v) (h : Q (.bool true) { s with toks := s.toks + 1 }) : wpAny (model prog w) A (compareOp .In (.int k t) (.ref d)) Q E s :=
  D.isIn X (by rw [hv]; exact h)
theorem ln_in_no (X : (hd.heap_39 w.params).In s.heap) (D : DAt s.heap b d o es n cc) (hv : cget cc k = none) (h : Q (.bool false) { s with toks := s.toks + 1 }) : wpAny (model prog w) A (compareOp .In (.int k t) (.ref d)) Q E s :=
  D.isIn X (by rw [hv]; exact h)
theorem ln_notin_yes {v : Int} (X : (hd.heap_39 w.params).In s.heap) (D : DAt s.heap b d o es n cc) (hv : cget cc k = some v) (h : Q (.bool false) { s with toks := s.toks + 1 }) : wpAny (model prog w) A (compareOp .NotIn (.int k t) (.ref d)) Q E s :=
  D.notIn X (by rw [hv]; exact h)
theorem ln_notin_no (X : (hd.heap_39 w.params).In s.heap) (D : DAt s.heap b d o es n cc) (hv : cget cc k = none) (h : Q (.bool true) { s with toks := s.toks + 1 }) : wpAny (model prog w) A (compareOp .NotIn (.int k t) (.ref d)) Q E s :=
  D.notIn X (by rw [hv]; exact h)
theorem ln_get {dd : Int} {u : Tok} (X : (hd.heap_39 w.params).In s.heap) (D : DAt s.heap b d o es n cc) (h : ∀ u, Q (.int ((cget cc k).getD dd) u) { s with toks := s.toks + 1 }) : wpAny (model prog w) A (call (.builtin "dict.get") [.ref d, .int k t, .int dd u]) Q E s :=
  D.get2 X h
theorem ln_meth_get {dx : Addr} {pl : Sem Bool} {Q : Value × List Value → Shared → Prop} (X : (hd.heap_39 w.params).In s.heap) {es : Array DictEntry} (hm : s.heap.get? d = some (ctrO dx es n)) (hmd : s.heap.get? dx = some (dictOf [] 0))
    (h : Q (.builtin "dict.get", [.ref d]) s) : wpAny (model prog w) A (getMethod (.ref d) "get" pl) Q E s :=
  ctr_method X hm rfl rfl hmd (kc_get w) (Looks.of_pure PySem.F.type_dict_get) (by decide) h
end

end

section
open PySem PySem.W PySem.Calls PyProof.Rows
set_option maxHeartbeats 4000000
section
variable {prog : Program} {w : World} {A : Around} {E : Value → Shared → Prop} {s : Shared} {a b : Int} {t u : Tok} {Q : Value → Shared → Prop}
theorem ln_min2 (hh : A.handled = none) (h : ∀ h' tk u, (∀ c o, s.heap.get? c = some o → h'.get? c = some o) → Q (.int (min a b) u) { s with heap := h', toks := tk }) :
    wpAny (model prog w) A (call (.builtin "min") [.int a t, .int b u]) Q E s := by
  refine min_two_ints hh fun h' tk k => ?_
  by_cases e : b < a
  · rw [if_pos e]
    have := h h' tk u k
    rwa [Int.min_eq_right (Int.le_of_lt e)] at this
  · rw [if_neg e]
    have := h h' tk t k
    rwa [Int.min_eq_left (by omega)] at this
theorem ln_max2 (hh : A.handled = none) (h : ∀ h' tk u, (∀ c o, s.heap.get? c = some o → h'.get? c = some o) → Q (.int (max a b) u) { s with heap := h', toks := tk }) :
    wpAny (model prog w) A (call (.builtin "max") [.int a t, .int b u]) Q E s := by
  refine max_two_ints hh fun h' tk k => ?_
  by_cases e : b > a
  · rw [if_pos e]
    have := h h' tk u k
    rwa [Int.max_eq_right (by omega)] at this
  · rw [if_neg e]
    have := h h' tk t k
    rwa [Int.max_eq_left (by omega)] at this
end

end

open PySem PySem.W PySem.Calls PyProof.Rows
local macro_rules | `(tactic| walk_at "eval Name") => `(tactic| (k_here; (with_reducible show wpAny _ _ (eval (Expr.Name _ _) (compEnvC _ _ _ _)) _ _ _); k_dflt (first
  | (refine' nm_local ?n ?v ?_; (case n => assumption); (case v => assumption))
  | (refine' nm_cell ?c ?o ?d ?_; (case c => exact rfl); (case o => assumption); (case d => assumption))
  | (refine' nm_builtin ?X ?T ?e ?v ?n ?_; (case X => assumption); (case T => assumption); (case e => k_is); (case v => boot_by_name); (case n => decide)))))
local macro_rules | `(tactic| walk_at "subscriptTail") => `(tactic| (k_here; (with_reducible show wpAny _ _ (subscriptTail _ _ (Value.ref _) (Value.int _ _)) _ _ _); refine' ln_sub ?X ?D ?v ?_ ?s; (case X => assumption); (case D => assumption); (case v => assumption); (case s => with_unfolding_all rfl); intro u'))
local macro_rules | `(tactic| walk_at "compareOp In") => `(tactic| (k_here; (with_reducible show wpAny _ _ (compareOp _ (Value.int _ _) (Value.ref _)) _ _ _); first | (refine' ln_in_yes ?X ?D ?v ?_; (case X => assumption); (case D => assumption); (case v => assumption)) | (refine' ln_in_no ?X ?D ?v ?_; (case X => assumption); (case D => assumption); (case v => assumption))))
local macro_rules | `(tactic| walk_at "compareOp NotIn") => `(tactic| (k_here; (with_reducible show wpAny _ _ (compareOp _ (Value.int _ _) (Value.ref _)) _ _ _); first | (refine' ln_notin_yes ?X ?D ?v ?_; (case X => assumption); (case D => assumption); (case v => assumption)) | (refine' ln_notin_no ?X ?D ?v ?_; (case X => assumption); (case D => assumption); (case v => assumption))))
local macro_rules | `(tactic| walk_at "call builtin:dict.get") => `(tactic| (k_here; refine' ln_get ?X ?D ?_; (case X => assumption); (case D => assumption); intro u'))
local macro_rules | `(tactic| walk_at "getMethod ref") => `(tactic| (k_here; (with_reducible show wpAny _ _ (getMethod _ (PySem.Str.ofString "get") _) _ _ _); refine' ln_meth_get ?X ?m ?md ?_; (case X => assumption); (case m => assumption); (case md => assumption)))
local macro_rules | `(tactic| walk_at "call builtin:min") => `(tactic| (k_here; (with_reducible show wpAny _ _ (call _ [Value.int _ _, Value.int _ _]) _ _ _); refine' ln_min2 ?h ?_; (case h => walk_at "m_hand"); intro h' tk' u' kk'))
local macro_rules | `(tactic| walk_at "call builtin:max") => `(tactic| (k_here; (with_reducible show wpAny _ _ (call _ [Value.int _ _, Value.int _ _]) _ _ _); refine' ln_max2 ?h ?_; (case h => walk_at "m_hand"); intro h' tk' u' kk'))

section
open PySem PySem.W PySem.Calls PyProof.Rows
set_option maxHeartbeats 4000000
/-- the test and the value of an intersection's rows -/
def andT (c1 c2 : List (Int × Int)) (k : Int) : Bool := (cget c2 k).isSome && decide (0 < min ((cget c1 k).getD 0) ((cget c2 k).getD 0))
def andV (c1 c2 : List (Int × Int)) (k : Int) : Int := min ((cget c1 k).getD 0) ((cget c2 k).getD 0)
def cand (c1 c2 : List (Int × Int)) : List (Int × Int) := ((c1.map (·.1)).filter (andT c1 c2)).map fun k => (k, andV c1 c2 k)
theorem cand_nodup {c1 c2 : List (Int × Int)} (h : (c1.map (·.1)).Nodup) : ((cand c1 c2).map (·.1)).Nodup := by
  unfold cand
  rw [List.map_map]
  have : ((fun p : Int × Int => p.1) ∘ fun k => (k, andV c1 c2 k)) = id := rfl
  rw [this, List.map_id]
  exact h.filter _
theorem cand_small {c1 c2 : List (Int × Int)} {n : Nat} (h : c1.length ≤ n) : (cand c1 c2).length ≤ n := by
  unfold cand
  have := List.length_filter_le (andT c1 c2) (c1.map (·.1))
  simp only [List.length_map] at this ⊢
  omega
theorem use_gives {M : Model} {A : Around} {s : Shared} {t : Sem Value} {c : List (Int × Int)} {Q E : Value → Shared → Prop} (G : GivesC M A s t c)
    (h : ∀ x h' tk, (∀ b o, s.heap.get? b = some o → h'.get? b = some o) → CNew s.heap h' x c → Q (.ref x) { s with heap := h', toks := tk }) : wpAny M A t Q E s := G Q E h
theorem gives_and {prog : Program} {w : World} {A : Around} {p : Program} {loose : List Str} {mg mb : Str → Option Value} {s : Shared} {d1 d2 : Addr} {c1 c2 : List (Int × Int)}
    (X : (hd.heap_39 w.params).In s.heap) (T : TopRead p loose mg mb s.heap) (S : SysIn s.heap) (hA : A.handled = none) (hd : A.depth + 14 < recursionLimit) (hu : A.units + 60 < cLine)
    (C1 : CAt s.heap d1 c1) (C2 : CAt s.heap d2 c2) : GivesC (model prog w) A s (call (.ref 49) [.ref d1, .ref d2]) (cand c1 c2) := by
  intro Q E hQ
  refine wpAny_call ?_
  walk_at "m_enterC"
  intro L' h₁ tk cells F N Y hab hL
  k_cells Y
  rename_i o' o2' dd' dd2'
  k_steps
  obtain ⟨dx1, es1, n1, D1, _⟩ := C1.dat
  obtain ⟨dx2, es2, n2, D2, _⟩ := C2.dat
  refine dictComp (andT c1 c2) (andV c1 c2) (by exact hA) rfl (by decide) rfl (by decide) (by decide) ?_
  walk1
  refine ⟨d1, true, _, es1, n1, c1, rfl, D1.keep F.keep, X.keeps F.keep, S.keep F.keep, C1.nodup, C1.small, ?_, ?_, ?_, ?_⟩
  · intro C k t s₃ m₃ E' hm hns hk hkeep
    have X3 := (X.keeps F.keep).keeps hkeep
    have T3 := (T.keeps F.keep).keeps hkeep
    have D13 := (D1.keep F.keep).keep hkeep
    have D23 := (D2.keep F.keep).keep hkeep
    have q1 := hkeep _ _ (N.get (.head _))
    have q2 := hkeep _ _ (N.get (.tail _ (.head _)))
    obtain ⟨p1, hp1, rfl⟩ := List.mem_map.mp hm
    obtain ⟨v1, hv1⟩ := cget_mem hp1
    refine wpAny_tests_one ?_
    cases hv2 : cget c2 p1.1 with
    | none =>
      k_steps
      · exact (by simp [andT, hv2])
      · exact ⟨s₃.heap, _, rfl, fun _ _ e => e⟩
    | some v2 =>
      k_steps
      all_goals first | exact ⟨_, _, rfl, by assumption⟩ | simp_all [andT]
  · intro C k t s₃ m₃ E' hm hpz hns hk hkeep
    have X3 := (X.keeps F.keep).keeps hkeep
    k_steps
    exact ⟨_, _, rfl, fun _ _ e => e⟩
  · intro C k t s₃ m₃ E' hm hpz hns hk hkeep
    have X3 := (X.keeps F.keep).keeps hkeep
    have T3 := (T.keeps F.keep).keeps hkeep
    have D13 := (D1.keep F.keep).keep hkeep
    have D23 := (D2.keep F.keep).keep hkeep
    have q1 := hkeep _ _ (N.get (.head _))
    have q2 := hkeep _ _ (N.get (.tail _ (.head _)))
    obtain ⟨p1, hp1, rfl⟩ := List.mem_map.mp hm
    obtain ⟨v1, hv1⟩ := cget_mem hp1
    cases hv2 : cget c2 p1.1 with
    | none => exact absurd hpz (by simp [andT, hv2])
    | some v2 =>
      k_steps
      · simp only [andV, hv1, hv2, Option.getD_some]; rfl
      · exact ⟨_, _, rfl, by assumption⟩
  · intro D h' tk o es n hD DD kk
    walk1
    have kk' : ∀ b o, s.heap.get? b = some o → h'.get? b = some o := fun b o e => kk b o (F.keep b o e)
    have DD' : DAt h' false D o es n (cand c1 c2) := DD
    refine ⟨X.keeps kk', ?_⟩
    refine use_gives (c := cand c1 c2) ?g ?_
    case g => exact gives_dict (X.keeps kk') (T.keeps kk') (by walk_at "m_hand") (by k_room) (by walk_at "m_units") DD' (cand_nodup C1.nodup) (cand_small C1.small)
    intro x h' tk k Cn
    k_steps
    exact hQ x h' tk (fun b o e => k b o (kk' b o e)) (Cn.elder kk')

end

section
open PySem PySem.W PySem.Calls PyProof.Rows
set_option maxHeartbeats 4000000
/-- a plain dict -/
abbrev dctO (od : Option Addr) (osl : Array (Option Value)) (es : List DictEntry) (n : Nat) : Obj := { cls := .type "dict", dict := od, data := .dict es.toArray n, slots := osl }
theorem DAt.shape {h : Heap} {D : Addr} {o : Obj} {es : List DictEntry} {n : Nat} {c : List (Int × Int)} (d : DAt h false D o es n c) : ∃ od osl, o = dctO od osl es n := by
  obtain ⟨oc, od, odt, osl⟩ := o
  have e1 := d.cls
  have e2 := d.data
  dsimp only at e1 e2
  subst e1 e2
  exact ⟨od, osl, rfl⟩
section
variable {prog : Program} {w : World} {A : Around} {E : Value → Shared → Prop} {s : Shared} {x L : Addr} {h₀ : Heap} {m : Str → Option Value} {news : List (Addr × Obj)} {od : Option Addr} {osl : Array (Option Value)} {es : List DictEntry} {n : Nat} {c : List (Int × Int)} {k : Int} {t u : Tok} {g : Obj → List (Addr × Obj)}
theorem line_setD {v : Int} {Q : Unit → Shared → Prop} (F : Fr h₀ L s.heap m) (N : News h₀ L s.heap news) (X : (hd.heap_39 w.params).In h₀) (U : UpdF x (dctO od osl es n) news g) (D : DAt s.heap false x (dctO od osl es n) es n c) (hz : c.length ≤ 1000)
    (h : ∀ h' es' n', Fr h₀ L h' m → News h₀ L h' (g (dctO od osl es' n')) → DAt h' false x (dctO od osl es' n') es' n' (cput c k v) → Q () { s with heap := h', toks := s.toks + 1 }) : wpAny (model prog w) A (setItem (.ref x) (.int k t) (.int v u)) Q E s := by
  obtain ⟨own, rest, rfl, hg, h1, h2⟩ := U.split
  have hmem := N (x, dctO od osl es n) (List.mem_append_right _ (.head _))
  refine D.setItem (X.keeps F.keep) hz fun h' o' es' n' D' hd hsl hsb => ?_
  obtain ⟨od', osl', rfl⟩ := D'.shape
  dsimp only at hd hsl
  subst hd hsl
  exact h h' es' n' (F.change hsb hmem.2.1 hmem.2.2) (hg _ ▸ N.setAt h1 h2 hsb D'.at_) D'
end
section
variable {prog : Program} {w : World} {A : Around} {E : Value → Shared → Prop} {s : Shared} {env : Env} {h₀ : Heap} {x : Str} {body : List Stmt} {Q : Flow → Shared → Prop}
theorem iter_datH {d : Addr} {b : Bool} {o : Obj} {es : List DictEntry} {nn : Nat} {c : List (Int × Int)} {m₀ : Str → Option Value} {a : Addr} {oq : Obj} {tail : List (Addr × Obj)} (J : Nat → Obj → Prop) (hh : A.handled = none) (D : DAt h₀ b d o es nn c) (X : (KF w).In h₀)
    (F : Fr h₀ env.locals s.heap m₀) (N : News h₀ env.locals s.heap ((a, oq) :: tail)) (hj : J 0 oq)
    (turn : ∀ i k v t oq h tk own, c[i]? = some (k, v) → OwnOff own (((a, oq) :: tail).map (·.1)) → J i oq → Fr h₀ env.locals h (fun y => if y = x then some (.int k t) else m₀ y) → News h₀ env.locals h ((a, oq) :: (tail ++ own)) →
      wpAny (model prog w) A (execs body env) (InvPostN h₀ env.locals (fun m' nx => (∀ z, z ≠ x → m' z = m₀ z) ∧ ∃ oq', nx = (a, oq') :: tail ∧ J (i + 1) oq') own (((a, oq) :: tail).map (·.1)) { s with heap := h, toks := tk } Q) E { s with heap := h, toks := tk })
    (done : ∀ (u : Str → Option Value) oq h tk, J c.length oq → Fr h₀ env.locals h (fun z => if z = x then u z else m₀ z) → News h₀ env.locals h ((a, oq) :: tail) → Q .next { s with heap := h, toks := tk }) :
    wpAny (model prog w) A (pyIter (.ref d)) (fun it s₂ => LoopAtV prog w A h₀ env x body Q E it s₂) E s := by
  refine iter_dat (fun i nx => ∃ oq', nx = (a, oq') :: tail ∧ J i oq') hh D X F N ⟨oq, rfl, hj⟩ ?_ ?_
  · rintro i k v t news₁ h tk own hv hadr hoff ⟨oq', rfl, hJ⟩ F₁ N₁
    exact turn i k v t oq' h tk own hv hoff hJ F₁ N₁
  · rintro u news₁ h tk ⟨oq', rfl, hJ⟩ F₁ N₁
    exact done u oq' h tk hJ F₁ N₁
theorem endH {L : Addr} {a : Addr} {oq oq' : Obj} {tail own : List (Addr × Obj)} {m' m₀ : Str → Option Value} {J : Obj → Prop} {h' : Heap} {tk : Nat} (F : Fr h₀ L h' m') (N : News h₀ L h' ((a, oq') :: (tail ++ own))) (hm : ∀ z, z ≠ x → m' z = m₀ z) (hj : J oq') :
    InvEndN h₀ L (fun m' nx => (∀ z, z ≠ x → m' z = m₀ z) ∧ ∃ oq', nx = (a, oq') :: tail ∧ J oq') own (((a, oq) :: tail).map (·.1)) s { s with heap := h', toks := tk } := by
  refine InvEndN.intro (nx := (a, oq') :: tail) F N ⟨hm, oq', rfl, hj⟩ rfl ?_ ?_
  · intro p hp
    rcases List.mem_cons.mp hp with rfl | hp
    · exact .head _
    · exact .tail _ (List.mem_append_left _ hp)
  · intro p hp
    exact .tail _ (List.mem_append_right _ hp)
end

end

open PySem PySem.W PySem.Calls PyProof.Rows
local macro_rules | `(tactic| walk_at "setItem ref") => `(tactic| (k_here; refine' line_setD ?F ?N ?X ?U ?D ?z ?_; (case F => k_asm); (case N => k_asm); (case X => k_asm); (case U => k_updF); (case D => assumption); (case z => assumption); intro h' es' n' F' N' D'; (try dsimp only)))

section
open PySem PySem.W PySem.Calls PyProof.Rows
set_option maxHeartbeats 4000000
/-- the rows of a union, before the last sieve -/
def or0 (c1 c2 : List (Int × Int)) : List (Int × Int) := (c1.map (·.1)).map fun k => (k, max ((cget c1 k).getD 0) ((cget c2 k).getD 0))
def orStep (c2 : List (Int × Int)) (r : List (Int × Int)) (k : Int) : List (Int × Int) := if (cget r k).isSome then r else cput r k ((cget c2 k).getD 0)
def or1 (c1 c2 l : List (Int × Int)) : List (Int × Int) := (l.map (·.1)).foldl (orStep c2) (or0 c1 c2)
def cor (c1 c2 : List (Int × Int)) : List (Int × Int) := (((or1 c1 c2 c2).map (·.1)).filter fun k => decide (0 < (cget (or1 c1 c2 c2) k).getD 0)).map fun k => (k, (cget (or1 c1 c2 c2) k).getD 0)
theorem or1_take {c1 c2 l : List (Int × Int)} {i : Nat} {k v : Int} (h : l[i]? = some (k, v)) : or1 c1 c2 (l.take (i + 1)) = orStep c2 (or1 c1 c2 (l.take i)) k := by
  unfold or1
  rw [List.take_add_one, h]
  simp
theorem cput_nodup {c : List (Int × Int)} {k v : Int} (h : (c.map (·.1)).Nodup) : ((cput c k v).map (·.1)).Nodup := by
  have hp : ∀ (c : List (Int × Int)), (c.map (·.1)).Nodup → ((cput c k v).map (·.1)).Nodup ∧ ∀ a, a ∈ (cput c k v).map (·.1) → a = k ∨ a ∈ c.map (·.1) := by
    intro c h
    induction c with
    | nil => exact ⟨by simp [cput], by simp [cput]⟩
    | cons p r ih =>
      obtain ⟨a, b⟩ := p
      simp only [List.map_cons, List.nodup_cons] at h
      unfold cput
      by_cases e : a = k
      · rw [if_pos e]
        exact ⟨by simpa using h, fun z hz => .inr hz⟩
      · rw [if_neg e]
        obtain ⟨i1, i2⟩ := ih h.2
        refine ⟨?_, ?_⟩
        · simp only [List.map_cons, List.nodup_cons]
          refine ⟨fun hm => ?_, i1⟩
          rcases i2 _ hm with h1 | h1
          · exact e h1
          · exact h.1 h1
        · intro z hz
          simp only [List.map_cons, List.mem_cons] at hz ⊢
          rcases hz with rfl | hz
          · exact .inr (.inl rfl)
          · rcases i2 _ hz with h1 | h1
            · exact .inl h1
            · exact .inr (.inr h1)
  exact (hp c h).1
theorem map_pair_keys {l : List Int} {f : Int → Int} : (l.map fun k => (k, f k)).map (·.1) = l := by
  rw [List.map_map]
  have : ((fun p : Int × Int => p.1) ∘ fun k => (k, f k)) = id := rfl
  rw [this, List.map_id]
theorem or1_nodup {c1 c2 l : List (Int × Int)} (h : (c1.map (·.1)).Nodup) : ((or1 c1 c2 l).map (·.1)).Nodup := by
  have : ∀ (l : List Int) (r : List (Int × Int)), (r.map (·.1)).Nodup → ((l.foldl (orStep c2) r).map (·.1)).Nodup := by
    intro l
    induction l with
    | nil => intro r h; exact h
    | cons a l ih =>
      intro r h
      rw [List.foldl_cons]
      refine ih _ ?_
      unfold orStep
      split
      · exact h
      · exact cput_nodup h
  refine this _ _ ?_
  unfold or0
  rw [map_pair_keys]
  exact h
theorem sieve_nodup {c : List (Int × Int)} {p : Int → Bool} {f : Int → Int} (h : (c.map (·.1)).Nodup) : ((((c.map (·.1)).filter p).map fun k => (k, f k)).map (·.1)).Nodup := by
  rw [map_pair_keys]
  exact h.filter _
theorem sieve_small {c : List (Int × Int)} {p : Int → Bool} {f : Int → Int} {n : Nat} (h : c.length ≤ n) : (((c.map (·.1)).filter p).map fun k => (k, f k)).length ≤ n := by
  have := List.length_filter_le p (c.map (·.1))
  simp only [List.length_map] at this ⊢
  omega
theorem orStep_len (c2 r : List (Int × Int)) (k : Int) : (orStep c2 r k).length ≤ r.length + 1 := by
  unfold orStep
  split
  · omega
  · exact cput_length _ _ _
theorem or1_len (c1 c2 l : List (Int × Int)) : (or1 c1 c2 l).length ≤ c1.length + l.length := by
  have : ∀ (l : List Int) (r : List (Int × Int)), (l.foldl (orStep c2) r).length ≤ r.length + l.length := by
    intro l
    induction l with
    | nil => intro r; simp
    | cons a l ih =>
      intro r
      rw [List.foldl_cons, List.length_cons]
      have := ih (orStep c2 r a)
      have := orStep_len c2 r a
      omega
  have h := this (l.map (·.1)) (or0 c1 c2)
  simp only [or0, List.length_map] at h
  exact h
theorem gives_or {prog : Program} {w : World} {A : Around} {p : Program} {loose : List Str} {mg mb : Str → Option Value} {s : Shared} {d1 d2 : Addr} {c1 c2 : List (Int × Int)}
    (X : (hd.heap_39 w.params).In s.heap) (T : TopRead p loose mg mb s.heap) (S : SysIn s.heap) (hA : A.handled = none) (hd : A.depth + 14 < recursionLimit) (hu : A.units + 60 < cLine)
    (C1 : CAt s.heap d1 c1) (C2 : CAt s.heap d2 c2) (hz : c1.length + c2.length ≤ 1000) : GivesC (model prog w) A s (call (.ref 54) [.ref d1, .ref d2]) (cor c1 c2) := by
  intro Q E hQ
  have hz0 := hz
  replace hz : (or1 c1 c2 c2).length ≤ 1000 := Nat.le_trans (or1_len c1 c2 c2) hz
  refine wpAny_call ?_
  walk_at "m_enterC"
  intro L' h₁ tk cells F N Y hab hL
  k_cells Y
  k_steps
  obtain ⟨dx1, es1, n1, D1, _⟩ := C1.dat
  obtain ⟨dx2, es2, n2, D2, m2⟩ := C2.dat
  refine dictComp (fun _ => true) (fun k => max ((cget c1 k).getD 0) ((cget c2 k).getD 0)) (by exact hA) rfl (by decide) rfl (by decide) (by decide) ?_
  walk1
  refine ⟨d1, true, _, es1, n1, c1, rfl, D1.keep F.keep, X.keeps F.keep, S.keep F.keep, C1.nodup, C1.small, ?_, ?_, ?_, ?_⟩
  · intro C k t s₃ m₃ E' hm hns hk hkeep
    exact wpAny_pure ⟨rfl, _, _, rfl, fun _ _ e => e⟩
  · intro C k t s₃ m₃ E' hm hpz hns hk hkeep
    have X3 := (X.keeps F.keep).keeps hkeep
    k_steps
    exact ⟨_, _, rfl, fun _ _ e => e⟩
  · intro C k t s₃ m₃ E' hm hpz hns hk hkeep
    have X3 := (X.keeps F.keep).keeps hkeep
    have T3 := (T.keeps F.keep).keeps hkeep
    have D13 := (D1.keep F.keep).keep hkeep
    have D23 := (D2.keep F.keep).keep hkeep
    have q1 := hkeep _ _ (N.get (.head _))
    have q2 := hkeep _ _ (N.get (.tail _ (.head _)))
    have q3 := hkeep _ _ (N.get (.tail _ (.tail _ (.head _))))
    obtain ⟨p1, hp1, rfl⟩ := List.mem_map.mp hm
    obtain ⟨v1, hv1⟩ := cget_mem hp1
    have q4 := hkeep _ _ (F.keep _ _ D2.at_)
    have q5 := hkeep _ _ (F.keep _ _ m2)
    k_steps
    · simp only [hv1, Option.getD_some]; rfl
    · exact ⟨_, _, rfl, by assumption⟩
  · intro D h' tk o es n hD DD kk
    have F2 := fr_grow F kk
    have N2 := news_add F (news_grow N kk) hD DD.at_
    obtain ⟨od, osl, rfl⟩ := DD.shape
    have ne : ∀ q oq, h₁.get? q = some oq → D ≠ q := by rintro q oq e rfl; rw [show h₁.get? D = none from hD] at e; cases e
    have ne1 : @Ne Nat D <| L' + 1 + 1 + 1 := ne _ _ (N.get (.head _))
    have ne2 : @Ne Nat D <| L' + 1 + 1 := ne _ _ (N.get (.tail _ (.head _)))
    have ne3 : @Ne Nat D <| L' + 1 := ne _ _ (N.get (.tail _ (.tail _ (.head _))))
    clear ne F N
    k_steps
    (with_reducible rename Fr _ _ _ _ => lF)
    (with_reducible rename News _ _ _ _ => lN)
    try simp only [List.cons_append, List.nil_append] at lN
    refine' iter_datH (a := D) (oq := dctO od osl es n) (fun i oq => ∃ es n cc, oq = dctO od osl es n ∧ Ents es cc ∧ cc = or1 c1 c2 (c2.take i)) ?jh ?jD ?jX ?jF ?jN ?jj ?zturn ?zdone
    case jh => exact hA
    case jD => exact D2
    case jX => exact X
    case jF => exact lF
    case jN => exact lN
    case jj => exact ⟨es, n, _, rfl, DD.ents, by show _ = or0 c1 c2; unfold or0; rw [List.filter_eq_self.mpr (fun _ _ => rfl)]⟩
    case zturn =>
      rintro i k v t' _ h tk own hv hoff ⟨es, n, cc, rfl, he, hcc⟩ F₁ N₁
      replace F₁ : Fr s.heap L' h _ := F₁
      replace N₁ : News s.heap L' h _ := N₁
      try simp only [List.cons_append, List.nil_append] at N₁
      try simp only [List.map_cons, List.map_nil] at hoff
      have X3 := X.keeps F₁.keep
      have D3 : DAt h false D (dctO od osl es n) es n cc := ⟨N₁.get (.head _), rfl, rfl, he, DD.sys⟩
      have D23 := D2.keep F₁.keep
      have hzc : cc.length ≤ 1000 := by
        rw [hcc]
        have := or1_len c1 c2 (c2.take i)
        rw [List.length_take] at this
        have := or1_len c1 c2 c2
        omega
      obtain ⟨v', hv'⟩ := cget_mem (List.mem_of_getElem? hv)
      cases hkc : cget cc k with
      | none =>
        k_steps
        (with_reducible rename Fr _ _ _ _ => Fz)
        (with_reducible rename News _ _ _ _ => Nz)
        (with_reducible rename DAt _ _ _ _ _ _ _ => Dz)
        refine endH Fz Nz (fun z hz => by simp [hz]) ⟨_, _, _, rfl, Dz.ents, ?_⟩
        rw [or1_take hv, ← hcc]
        simp [orStep, hkc, hv']
      | some vv =>
        k_steps
        refine endH F₁ N₁ (fun z hz => by simp [hz]) ⟨_, _, _, rfl, he, ?_⟩
        rw [or1_take hv, ← hcc]
        simp [orStep, hkc]
    case zdone =>
      rintro u _ h tk ⟨es, n, cc, rfl, he, hcc⟩ F₁ N₁
      replace F₁ : Fr s.heap L' h _ := F₁
      replace N₁ : News s.heap L' h _ := N₁
      try simp only [List.cons_append, List.nil_append] at N₁
      dsimp only
      rw [List.take_length] at hcc
      have hnd := or1_nodup (c2 := c2) (l := c2) C1.nodup
      rw [← hcc] at hnd hz
      have D3 : DAt h false D (dctO od osl es n) es n cc := ⟨N₁.get (.head _), rfl, rfl, he, DD.sys⟩
      k_steps
      refine dictComp (fun k => decide (0 < (cget cc k).getD 0)) (fun k => (cget cc k).getD 0) (by exact hA) rfl (by decide) rfl (by decide) (by decide) ?_
      walk1
      refine ⟨D, false, _, es, n, cc, rfl, D3, X.keeps F₁.keep, S.keep F₁.keep, hnd, hz, ?_, ?_, ?_, ?_⟩
      · intro C k t s₃ m₃ E' hm hns hk hkeep
        have X3 := (X.keeps F₁.keep).keeps hkeep
        have T3 := (T.keeps F₁.keep).keeps hkeep
        have D13 := D3.keep hkeep
        have q1 := hkeep _ _ (N₁.get (.tail _ (.head _)))
        obtain ⟨p1, hp1, rfl⟩ := List.mem_map.mp hm
        obtain ⟨v1, hv1⟩ := cget_mem hp1
        refine wpAny_tests_one ?_
        k_steps
        all_goals first | exact ⟨_, _, rfl, fun _ _ e => e⟩ | simp_all
      · intro C k t s₃ m₃ E' hm hpz hns hk hkeep
        have X3 := (X.keeps F₁.keep).keeps hkeep
        k_steps
        exact ⟨_, _, rfl, fun _ _ e => e⟩
      · intro C k t s₃ m₃ E' hm hpz hns hk hkeep
        have X3 := (X.keeps F₁.keep).keeps hkeep
        have T3 := (T.keeps F₁.keep).keeps hkeep
        have D13 := D3.keep hkeep
        have q1 := hkeep _ _ (N₁.get (.tail _ (.head _)))
        obtain ⟨p1, hp1, rfl⟩ := List.mem_map.mp hm
        obtain ⟨v1, hv1⟩ := cget_mem hp1
        k_steps
        · simp only [hv1, Option.getD_some]; rfl
        · exact ⟨_, _, rfl, fun _ _ e => e⟩
      · intro D' h' tk o es n hD DD' kk
        walk1
        have kk' : ∀ b o, s.heap.get? b = some o → h'.get? b = some o := fun b o e => kk b o (F₁.keep b o e)
        refine ⟨X.keeps kk', ?_⟩
        have hcor : cor c1 c2 = ((cc.map (·.1)).filter fun k => decide (0 < (cget cc k).getD 0)).map fun k => (k, (cget cc k).getD 0) := by rw [hcc]; rfl
        refine use_gives (c := cor c1 c2) ?g ?_
        case g =>
          rw [hcor]
          exact gives_dict (X.keeps kk') (T.keeps kk') (by walk_at "m_hand") (by k_room) (by walk_at "m_units") DD' (sieve_nodup hnd) (sieve_small hz)
        intro x h' tk k Cn
        k_steps
        exact hQ x h' tk (fun b o e => k b o (kk' b o e)) (Cn.elder kk')

end

section
open PySem PySem.W PySem.Calls PyProof.Rows
set_option maxHeartbeats 4000000
theorem kc_and (w : World) : findIn (KF w) (.ref CTR) "__and__" = some (some (.ref 49)) := by kernel_rfl
theorem kc_or (w : World) : findIn (KF w) (.ref CTR) "__or__" = some (some (.ref 54)) := by kernel_rfl
theorem kc_ior (w : World) : findIn (KF w) (.ref CTR) "__ior__" = some (some (.ref 61)) := by kernel_rfl
theorem kc_iand (w : World) : findIn (KF w) (.ref CTR) "__iand__" = some none := by kernel_rfl
theorem kd_iand (w : World) : findIn (KF w) (.type "dict") "__iand__" = some none := by kernel_rfl
theorem ko_iand (w : World) : findIn (KF w) (.type "object") "__iand__" = some none := by kernel_rfl
theorem kc_mro0 (w : World) : (clsIn (KF w) CTR).map (·.mro) = some [.ref CTR, .type "dict", .type "object"] := by kernel_rfl
theorem kc_mro (w : World) : ∃ cd, clsIn (KF w) CTR = some cd ∧ cd.mro = [.ref CTR, .type "dict", .type "object"] := by
  have h := kc_mro0 w
  cases hc : clsIn (KF w) CTR with
  | none => rw [hc] at h; cases h
  | some cd => rw [hc] at h; exact ⟨cd, rfl, Option.some.inj h⟩
theorem kf49 (w : World) : typeIn (KF w) (.ref 49) = some (.type "function") := by kernel_rfl
theorem kf54 (w : World) : typeIn (KF w) (.ref 54) = some (.type "function") := by kernel_rfl
theorem kf61 (w : World) : typeIn (KF w) (.ref 61) = some (.type "function") := by kernel_rfl
section
variable {prog : Program} {w : World} {A : Around} {E : Value → Shared → Prop} {s : Shared} {d1 d2 : Addr} {c1 c2 : List (Int × Int)}
theorem CAt.type {M : Model} {h : Heap} {d : Addr} {c : List (Int × Int)} (C : CAt h d c) : Looks M h (typeOf (.ref d)) (.ref CTR) := let ⟨_, _, _, D, _⟩ := C.dat; D.type
theorem ctr_try {Q : Value → Shared → Prop} {name : Str} {b : Value} {f : Addr} (X : (KF w).In s.heap) (C : CAt s.heap d1 c1) (hs : findIn (KF w) (.ref CTR) name = some (some (.ref f))) (hf : typeIn (KF w) (.ref f) = some (.type "function"))
    (h : wpAny (model prog w) A (call (.ref f) [.ref d1, b]) (fun v s' => ∃ x, v = .ref x ∧ Q (.ref x) s') E s) : wpAny (model prog w) A (tryMethod (.ref d1) name b) (fun r s' => ∃ x, r = some (.ref x) ∧ Q (.ref x) s') E s := by
  have t := C.type (M := model prog w)
  have g := looks_findIn (M := model prog w) X hs
  unfold tryMethod callSpecial?
  refine wpAny_bind (wpAny_bind (wpAny_bind (t.here (g.here (wpAny_holding (wpAny_bind ((bind_fn X _ hf).here (wpAny_bind (wpAny_mono h (fun v s' hv => wpAny_pure ?_) fun _ _ z => z)))))))))
  obtain ⟨x, rfl, hq⟩ := hv
  exact wpAny_pure ⟨x, rfl, hq⟩
theorem GivesC.ref {M : Model} {t : Sem Value} {Q : Value → Shared → Prop} {c : List (Int × Int)} (G : GivesC M A s t c)
    (h : ∀ x h' tk, (∀ b o, s.heap.get? b = some o → h'.get? b = some o) → CNew s.heap h' x c → Q (.ref x) { s with heap := h', toks := tk }) : wpAny M A t (fun v s' => ∃ x, v = .ref x ∧ Q (.ref x) s') E s := G _ _ fun x h' tk k C => ⟨x, rfl, h x h' tk k C⟩
theorem op_and {c : List (Int × Int)} (X : (KF w).In s.heap) (C1 : CAt s.heap d1 c1) (C2 : CAt s.heap d2 c2) (G : GivesC (model prog w) A s (call (.ref 49) [.ref d1, .ref d2]) c) : GivesC (model prog w) A s (inplaceOp .BitAnd (.ref d1) (.ref d2)) c := by
  intro Q E hQ
  have one := ctr_try (E := E) (Q := Q) X C1 (kc_and w) (kf49 w) (G.ref hQ)
  obtain ⟨hh, g, d, tt, os⟩ := s
  dsimp only at X C1 C2
  obtain ⟨cd, hcd, hm⟩ := kc_mro w
  have L1 : Looks (model prog w) hh (typeOf (.ref d1)) (.ref CTR) := C1.type
  have L2 : Looks (model prog w) hh (typeOf (.ref d2)) (.ref CTR) := C2.type
  have Lm : Looks (model prog w) hh (mroOf (.ref CTR)) cd.mro := (looks_clsIn X hcd).andThen (f := fun cd => pure cd.mro) .now
  have L3 : Looks (model prog w) hh (fillsNumberSlot (.ref CTR) "and") true := fills_K X hcd hm (kc_and w)
  have i1 : Looks (model prog w) hh (typeLookup (.ref CTR) "__iand__") none := looks_findIn X (kc_iand w)
  have i2 : Looks (model prog w) hh (typeLookup (.type "dict") "__iand__") none := looks_findIn X (kd_iand w)
  have i3 : Looks (model prog w) hh (typeLookup (.type "object") "__iand__") none := looks_findIn X (ko_iand w)
  have L4 : Looks (model prog w) hh (fillsInplaceSlot (.ref CTR) "and" false) false := by
    intro A Q E s k q
    have Lm' := Lm.keeps k
    have j1 := i1.keeps k
    have j2 := i2.keeps k
    have j3 := i3.keeps k
    obtain ⟨hh, g, d, tt, os⟩ := s
    unfold fillsInplaceSlot
    refine wpAny_bind (Lm'.at ?_)
    rw [hm, List.anyM_cons, List.anyM_cons, List.anyM_cons, List.anyM_nil]
    have e1 : dunderI "and" = "__iand__" := by decide +kernel
    rw [e1]
    refine wpAny_bind ?_
    repeat lk
    exact q
  unfold inplaceOp
  refine wpAny_holding ?_
  rw [show (Operator.BitAnd.info).2 = "and" from rfl]
  refine wpAny_bind (L1.at ?_)
  dsimp only
  refine wpAny_bind (L4.at ?_)
  rw [if_neg (by decide)]
  refine wpAny_bind ?_
  unfold binaryOp1
  have hne : (Value.ref CTR == Value.ref CTR) = true := by decide
  refine wpAny_bind (L1.at (wpAny_bind (L2.at (wpAny_bind (L3.at ?_)))))
  simp only [hne, if_true]
  repeat ((fail_if_success (with_reducible show wpAny _ _ (tryMethod _ _ _) _ _ _)); lk)
  have e2 : PySem.dunder "and" = "__and__" := by decide +kernel
  rw [e2]
  refine wpAny_mono one (fun r s' hr' => ?_) fun _ _ e => e
  obtain ⟨v, rfl, hq⟩ := hr'
  repeat ((fail_if_success (with_reducible show wpAny _ _ (tryMethod _ _ _) _ _ _)); lk)
  exact hq
theorem op_ior {c : List (Int × Int)} (X : (KF w).In s.heap) (C1 : CAt s.heap d1 c1) (G : GivesC (model prog w) A s (call (.ref 61) [.ref d1, .ref d2]) c) : GivesC (model prog w) A s (inplaceOp .BitOr (.ref d1) (.ref d2)) c := by
  intro Q E hQ
  have one := ctr_try (E := E) (Q := Q) X C1 (kc_ior w) (kf61 w) (G.ref hQ)
  obtain ⟨hh, g, d, tt, os⟩ := s
  dsimp only at X C1
  obtain ⟨cd, hcd, hm⟩ := kc_mro w
  have L1 : Looks (model prog w) hh (typeOf (.ref d1)) (.ref CTR) := C1.type
  have L2 : Looks (model prog w) hh (fillsInplaceSlot (.ref CTR) "or" false) true := ksp_fillsI X hcd hm (kc_ior w)
  unfold inplaceOp
  refine wpAny_holding ?_
  rw [show (Operator.BitOr.info).2 = "or" from rfl]
  refine wpAny_bind (L1.at ?_)
  dsimp only
  refine wpAny_bind (L2.at ?_)
  rw [if_pos rfl]
  have e1 : dunderI "or" = "__ior__" := by decide +kernel
  rw [e1]
  repeat ((fail_if_success (with_reducible show wpAny _ _ (tryMethod _ _ _) _ _ _)); lk)
  refine wpAny_mono one (fun r s' hr' => ?_) fun _ _ e => e
  obtain ⟨v, rfl, hq⟩ := hr'
  repeat ((fail_if_success (with_reducible show wpAny _ _ (tryMethod _ _ _) _ _ _)); lk)
  exact hq
theorem op_or {c : List (Int × Int)} (X : (KF w).In s.heap) (C1 : CAt s.heap d1 c1) (C2 : CAt s.heap d2 c2) (G : GivesC (model prog w) A s (call (.ref 54) [.ref d1, .ref d2]) c) : GivesC (model prog w) A s (binaryOp .BitOr (.ref d1) (.ref d2)) c := by
  intro Q E hQ
  have one := ctr_try (E := E) (Q := Q) X C1 (kc_or w) (kf54 w) (G.ref hQ)
  obtain ⟨hh, g, d, tt, os⟩ := s
  dsimp only at X C1 C2
  obtain ⟨cd, hcd, hm⟩ := kc_mro w
  have L1 : Looks (model prog w) hh (typeOf (.ref d1)) (.ref CTR) := C1.type
  have L2 : Looks (model prog w) hh (typeOf (.ref d2)) (.ref CTR) := C2.type
  have L3 : Looks (model prog w) hh (fillsNumberSlot (.ref CTR) "or") true := fills_K X hcd hm (kc_or w)
  unfold binaryOp
  refine wpAny_holding ?_
  rw [show (Operator.BitOr.info) = ("|", "or") from rfl]
  dsimp only
  refine wpAny_bind ?_
  unfold binaryOp1
  have hne : (Value.ref CTR == Value.ref CTR) = true := by decide
  refine wpAny_bind (L1.at (wpAny_bind (L2.at (wpAny_bind (L3.at ?_)))))
  simp only [hne, if_true]
  repeat ((fail_if_success (with_reducible show wpAny _ _ (tryMethod _ _ _) _ _ _)); lk)
  have e2 : PySem.dunder "or" = "__or__" := by decide +kernel
  rw [e2]
  refine wpAny_mono one (fun r s' hr' => ?_) fun _ _ e => e
  obtain ⟨v, rfl, hq⟩ := hr'
  repeat ((fail_if_success (with_reducible show wpAny _ _ (tryMethod _ _ _) _ _ _)); lk)
  exact hq
end

end

section
local macro_rules | `(tactic| walk_at "pad") => `(tactic| fail)
open PySem PySem.W PySem.Calls PyProof.Rows
set_option maxHeartbeats 4000000
theorem gives_ior {prog : Program} {w : World} {A : Around} {p : Program} {loose : List Str} {mg mb : Str → Option Value} {s : Shared} {d1 d2 : Addr} {c1 c2 : List (Int × Int)}
    (X : (hd.heap_39 w.params).In s.heap) (T : TopRead p loose mg mb s.heap) (S : SysIn s.heap) (hA : A.handled = none) (hd : A.depth + 16 < recursionLimit) (hu : A.units + 70 < cLine)
    (C1 : CAt s.heap d1 c1) (C2 : CAt s.heap d2 c2) (hz : c1.length + c2.length ≤ 1000) : GivesC (model prog w) A s (call (.ref 61) [.ref d1, .ref d2]) (cor c1 c2) := by
  intro Q E hQ
  refine wpAny_call ?_
  have hk : ∀ b o, s.heap.get? b = some o → s.heap.get? b = some o := fun _ _ e => e
  have hz : s.heap.objs.size ≤ s.heap.objs.size := Nat.le_refl _
  have hn : ∀ q ∈ ([] : List (Addr × Obj)), s.heap.get? q.1 = some q.2 ∧ s.heap.get? q.1 = none := fun _ h => nomatch h
  walk_at "m_enter"
  intro L' h₁ F N hk₁
  k_steps
  refine use_gives (c := cor c1 c2) ?g ?_
  case g => exact op_or (X.keeps F.keep) (C1.keep F.keep) (C2.keep F.keep) (gives_or (X.keeps F.keep) (T.keeps F.keep) (S.keep F.keep) (by walk_at "m_hand") (by k_room) (by walk_at "m_units") (C1.keep F.keep) (C2.keep F.keep) (by assumption))
  intro x h' tk k Cn
  k_steps
  exact hQ x h' tk (fun b o e => k b o (F.keep b o e)) (Cn.elder F.keep)

end

section
open PySem PySem.W PySem.Calls PyProof.Rows
set_option maxHeartbeats 4000000
abbrev setO (led : Bool) : Obj := { cls := .type "set", dict := none, data := .set #[] 0 (.fresh 0 0 led) }
section
variable {prog : Program} {w : World} {A : Around} {E : Value → Shared → Prop} {s : Shared}
theorem call_set_core {l : Addr} {Q : Value → Shared → Prop} {T : Value} {P : Heap → Prop}
    (hset : Looks (model prog w) s.heap (isInstance (.ref l) (.type "set")) false) (hfro : Looks (model prog w) s.heap (isInstance (.ref l) (.type "frozenset")) false) (hty : Looks (model prog w) s.heap (typeOf (.ref l)) T) (hne : (T == .type "dict") = false)
    (hA : A.handled = none)
    (H : ∀ led A', A'.handled = none → A'.units ≤ A.units + 10 → wpAny (model prog w) A' (pyIter (.ref l)) (fun it s₁ => codeAny (model prog w) A' (.builtin "set.update.loop" ⟨[.ref s.heap.objs.size, it], []⟩) (fun r s₂ => r = .ok (.ret .none) ∧ ∃ h' tk, s₂ = { s with heap := h', toks := tk } ∧ P h' ∧
        (∀ b o, s.heap.get? b = some o → h'.get? b = some o)) s₁) (fun _ _ => False) { s with heap := s.heap.push (setO led) })
    (h : ∀ h' tk, P h' → (∀ b o, s.heap.get? b = some o → h'.get? b = some o) → Q (.ref s.heap.objs.size) { s with heap := h', toks := tk }) :
    wpAny (model prog w) A (call (.type "set") [.ref l]) Q E s := by
  obtain ⟨c, tl, hmro⟩ := F.called_set.mro
  have hmade := F.called_set.made
  have hsub := F.called_set.sub
  refine wpAny_call (codeAny_of_tree ?_)
  show wpAny _ _ (callAny (.type "set") _) _ _ _
  refine wpAny_pure ⟨Code.quiet_builtin _ (by decide +kernel), codeAny_builtin F.entry_type_call ?_⟩
  rw [Around.under_plain (weight_type_call_type "set" [.ref l] []) rfl]
  have h1 := F.called_set.notType
  have h2 := F.called_set.canCreate
  have hct := F.typeCall_set_1 (.ref l)
  repeat (any_goals (first | assumption | wp_step))
  clear h1 h2
  refine codeAny_mono (code_set_new_1 (.ref l) (E := E) (Q₁ := fun obj s₁ => ∃ led : Bool, obj = .ref s.heap.objs.size ∧ s₁ = { s with heap := s.heap.push (setO led) }) fun led => ⟨led, rfl, rfl⟩) fun r s₁ hr => ?_
  cases r with
  | error e => exact hr
  | ok fl =>
    cases fl with
    | ret obj =>
      obtain ⟨led, rfl, rfl⟩ := hr
      have hS : (s.heap.push (setO led)).get? s.heap.objs.size = some (setO led) := Heap.get?_push_size _ rfl
      have hT : Shared.TypeIs { s with heap := s.heap.push (setO led) } (.ref s.heap.objs.size) "set" := ⟨_, hS, rfl⟩
      have hli := F.called_set.init.lookup
      have hbi := F.called_set.init.bind (.ref s.heap.objs.size)
      repeat (any_goals (first | assumption | wp_step))
      refine codeAny_mono (codeAny_call_builtin (R := wants (fun r s₂ => r = .none ∧ ∃ h' tk, s₂ = { s with heap := h', toks := tk } ∧ P h' ∧ (∀ b o, s.heap.get? b = some o → h'.get? b = some o)) E) F.called_set.init.plain F.entry_set_init (check_set_init_1 hT ?_)) fun r₂ s₂ hr₂ => ?_
      · have hk : ∀ b o, s.heap.get? b = some o → (s.heap.push (setO led)).get? b = some o := fun b o e => Heap.get?_push_of_some _ e
        have k1 := hset.keeps hk
        have k2 := hfro.keeps hk
        have k3 := hty.keeps hk
        have H' := H led
        obtain ⟨hh, gg, dd, tt, os⟩ := s
        unfold Builtin.«set.__init__» noKeywords
        generalize hUF : Builtin.Frozenset.updateFrom = UF
        wp_walk
        subst hUF
        unfold Builtin.Frozenset.updateFrom Builtin.Frozenset.isAnySet
        refine wpAny_bind ?_
        unfold orM
        refine wpAny_bind (k1.at ?_)
        simp only [toBool]
        refine k2.at ?_
        rw [if_neg (by decide)]
        refine wpAny_bind ?_
        refine k3.at ?_
        rw [hne, if_neg (by decide)]
        refine wpAny_bind (wpAny_mono (H' _ ?_ ?_) (fun it s₁ h₁ => ?_) fun _ _ e => e.elim)
        · simp [hA]
        · simp only [units_in1]; omega
        · refine wpAny_bind (wpAny_runValue (codeAny_mono h₁ ?_))
          rintro r s₂ ⟨rfl, hp⟩
          obtain ⟨h', tk, rfl, hp, hk'⟩ := hp
          refine wpAny_pure ?_
          refine wpAny_pure ?_
          exact ⟨rfl, h', tk, rfl, hp, hk'⟩
      · cases r₂ with
        | error e => exact hr₂
        | ok fl₂ =>
          cases fl₂ with
          | ret r =>
            obtain ⟨rfl, h', tk, rfl, hP', hk'⟩ := hr₂
            repeat (any_goals (first | assumption | wp_step))
            exact h _ _ hP' hk'
          | _ => exact hr₂.elim
    | _ => exact hr.elim
end

end

section
open PySem PySem.W PySem.Calls PyProof.Rows
set_option maxHeartbeats 4000000
theorem ks_set (w : World) : subIn (KF w) (.ref CTR) (.type "set") = some false := by kernel_rfl
theorem ks_fro (w : World) : subIn (KF w) (.ref CTR) (.type "frozenset") = some false := by kernel_rfl
/-- a set of n elements -/
def SetN (h : Heap) (S : Addr) (n : Nat) : Prop := ∃ o es ep t, h.get? S = some o ∧ o.ExactSet ∧ o.data = .set es ep t ∧ t.fits es.size = true ∧ es.size = n
theorem firstMet_nodup {ks : List Int} (hn : ks.Nodup) : ∀ i, i ≤ ks.length → firstMet (fun i => ks.getD i 0) i = ks.take i := by
  intro i
  induction i with
  | zero => intro _; rfl
  | succ i ih =>
    intro hi
    rw [firstMet_succ, ih (by omega)]
    have hg : ks[i]? = some ks[i] := List.getElem?_eq_getElem (by omega)
    have hk : ks.getD i 0 = ks[i] := by simp [List.getD, hg]
    unfold step_dedup
    rw [hk]
    have hno : ¬ ((ks.take i).any (· == ks[i]) = true) := by
      intro hh
      obtain ⟨x, hx, he⟩ := List.any_eq_true.mp hh
      have e : x = ks[i] := by simpa using he
      subst e
      obtain ⟨j, hj, e2⟩ := List.mem_iff_getElem.mp hx
      rw [List.length_take] at hj
      rw [List.getElem_take] at e2
      exact List.pairwise_iff_getElem.mp hn j i (by omega) (by omega) (by omega) e2
    rw [if_neg hno, List.take_add_one, hg]
    rfl
section
variable {prog : Program} {w : World} {A : Around} {E : Value → Shared → Prop} {s : Shared} {d : Addr} {o : Obj} {es : List DictEntry} {n : Nat} {c : List (Int × Int)}
theorem ents_key {es : List DictEntry} {c : List (Int × Int)} (h : Ents es c) {i : Nat} {e : DictEntry} (he : es[i]? = some e) : ∃ t, e.key = .int ((c.map (·.1)).getD i 0) t := by
  obtain ⟨k, v, t, u, h1, rfl⟩ := h.row he
  exact ⟨t, by simp [List.getD, h1]⟩
theorem set_ctr {Q : Value → Shared → Prop} (hA : A.handled = none) (X : (KF w).In s.heap) (D : DAt s.heap true d o es n c) (hnd : (c.map (·.1)).Nodup) (hsz : c.length ≤ 1000)
    (h : ∀ S h' tk, SetN h' S c.length → (∀ b o, s.heap.get? b = some o → h'.get? b = some o) → Q (.ref S) { s with heap := h', toks := tk }) : wpAny (model prog w) A (call (.type "set") [.ref d]) Q E s := by
  refine call_set_core (P := fun h' => SetN h' s.heap.objs.size c.length) (D.type.andThen (looks_subIn X (ks_set w))) (D.type.andThen (looks_subIn X (ks_fro w))) D.type (by decide) hA (fun led A' hA' hu => ?_) fun h' tk hP hk => h _ h' tk hP hk
  have hk0 : ∀ b o, s.heap.get? b = some o → (s.heap.push (setO led)).get? b = some o := fun b o e => Heap.get?_push_of_some _ e
  have D' := D.keep hk0
  refine D'.iter (X.keeps hk0) ?_
  have hlt := Heap.lt_size D.at_
  have hs1 : (s.heap.push (setO led)).objs.size = s.heap.objs.size + 1 := Heap.size_push ..
  dsimp only
  rw [hs1]
  have hlen : es.length = c.length := D.ents.length
  have hS : (s.heap.push (setO led)).get? s.heap.objs.size = some (setO led) := Heap.get?_push_size _ rfl
  have hI : ((s.heap.push (setO led)).push (kiter d 0 es.length n)).get? (s.heap.objs.size + 1) = some (kiter d 0 es.length n) := by
    have := Heap.get?_push_size (h := s.heap.push (setO led)) (o := kiter d 0 es.length n) rfl
    rwa [hs1] at this
  have hb : es.length + 1 < scanBound := by show es.length + 1 < 4096; omega
  refine codeAny_set_update_loopS (kwalk (A := A'.in1) (by simpa using hA') (s.heap.objs.size + 1) d (Nat.ne_of_lt (Nat.lt_succ_of_lt hlt)) es n).toS s.heap.objs.size ?_ (fun i => (c.map (·.1)).getD i 0) (fun i v hP => ?_) hb (es.length - 0) 0 _ (by omega) (Nat.zero_le _)
    ⟨hI, o, Heap.get?_push_of_some _ D'.at_, D.data⟩ ?_ ?_
  · simp only [List.mem_cons, List.not_mem_nil, or_false, not_or]
    exact ⟨Nat.ne_of_lt (Nat.lt_succ_self _), Nat.ne_of_gt hlt⟩
  · obtain ⟨e, he, rfl⟩ := hP
    exact ents_key D.ents he
  · exact SetOf_congr ((setObjOf_fresh (knd := intKind prog w) led).setOf (Heap.get?_push_of_some _ hS) (by unfold scanBound; omega)) (fun _ => rfl) rfl
  · intro s' hm hS'
    obtain ⟨h', g', d', tk', os'⟩ := s'
    have eg : g' = s.gens := hm.gens
    have ed : d' = s.drawn := hm.drawn
    have eo : os' = s.os := hm.os
    subst eg; subst ed; subst eo
    refine ⟨rfl, h', tk', rfl, ?_, fun b o' e => ?_⟩
    · obtain ⟨oo, es', ep, t, h1, h2, h3, _, _, _, h7, h8⟩ := hS'
      refine ⟨oo, es', ep, t, h1, h2, h3, h7, ?_⟩
      rw [h8, hlen, firstMet_nodup hnd _ (by simp)]
      simp
    · have hb := Heap.lt_size e
      refine hm.heap b o' ?_ (Heap.get?_push_of_some _ (hk0 _ _ e))
      simp only [List.mem_cons, List.not_mem_nil, or_false, not_or]
      exact ⟨Nat.ne_of_lt hb, Nat.ne_of_lt (Nat.lt_succ_of_lt hb)⟩
theorem len_set {S : Addr} {N : Nat} {Q : Value → Shared → Prop} (hS : SetN s.heap S N) (hN : N ≤ 100000) (h : ∀ tk u, Q (.int N u) { s with toks := tk }) : wpAny (model prog w) A (call (.builtin "len") [.ref S]) Q E s := by
  obtain ⟨oo, es', ep, t, h1, h2, h3, h4, rfl⟩ := hS
  exact call_len_set h1 h2 h3 h4 (by omega) (h _ _)
end

end

section
open PySem PySem.W PySem.Calls PyProof.Rows
set_option maxHeartbeats 4000000
abbrev viter (d : Addr) (i n ep : Nat) : Obj := { cls := .type "dict_valueiterator", data := .fields #[.ref d, .int i 0, .int n 0, .int ep 0] }
abbrev viewO (d : Addr) : Obj := { cls := .type "dict_values", data := .fields #[.ref d] }
section
variable {prog : Program} {w : World} {A : Around} {E : Value → Shared → Prop} {s : Shared} {x it d : Addr} {b : Bool} {o od : Obj} {es : List DictEntry} {n ep : Nat} {c : List (Int × Int)} {i : Nat}
theorem viter_ty (ho : s.heap.get? it = some (viter d i n ep)) : s.TypeIs (.ref it) "dict_valueiterator" := ⟨_, ho, rfl⟩
theorem lk_vtn {h : Heap} (ho : h.get? it = some (viter d i n ep)) : Looks (model prog w) h (typeNameOfWhole (.ref it)) "dict_valueiterator" := fun _ _ _ _ k q => wpAny_typeNameOfWhole_valiter ⟨_, k _ _ ho, rfl⟩ q
theorem lk_vone {h : Heap} (ho : h.get? it = some (viter d i n ep)) (ts : List String) : Looks (model prog w) h (Builtin.Dict_items.isOneOf (.ref it) ts) (ts.any fun t => [Value.type "dict_valueiterator", Value.type "object"].contains (.type t)) := fun _ _ _ _ k q => wpAny_isOneOf_valiter ⟨_, k _ _ ho, rfl⟩ q
theorem viter_next {e : DictEntry} {Q : Option Value → Shared → Prop} (ho : s.heap.get? it = some (viter d i es.length ep)) (hod : s.heap.get? d = some od) (hdd : od.data = .dict es.toArray ep) (hx : es[i]? = some e)
    (hQ : ∀ h', h'.get? it = some (viter d (i + 1) es.length ep) → Heap.SameBut it s.heap h' → Q (some e.val) { s with heap := h' }) : wpAny (model prog w) A (pyNext (.ref it)) Q E s := by
  have hT := viter_ty ho
  unfold pyNext
  refine wpAny_bind (wpAny_attempt (wpAny_callSpecial?_slot (name := Str.ofString "__next__") hT PySem.F.slot_dict_valueiterator_next
    (wpAny_call_entry PySem.F.slot_dict_valueiterator_next hT PySem.F.entry_dict_valueiterator_next ?_ (PySem.F.args_dict_valueiterator_next_1 _))))
  obtain ⟨hh, g, dr, t, os⟩ := s
  dsimp only at ho hod hT
  have l1 := lk_vtn (prog := prog) (w := w) ho
  have l2 := lk_vone (prog := prog) (w := w) ho
  unfold Builtin.«dict_valueiterator.__next__»
  obtain ⟨oc, odd, odt, osl⟩ := od
  dsimp only at hdd
  subst hdd
  repeat lk
  rw [if_neg (by simp)]
  repeat lk
  rw [if_neg (by simp)]
  repeat lk
  have hl : ¬ ((i : Int) < 0) := by omega
  rw [if_neg hl, Int.toNat_natCast, List.getElem?_toArray, hx]
  dsimp only
  repeat lk
  refine wpAny_update (o := viter d i es.length ep) ho ?_
  generalize hf : (Obj.mapFields _ : Obj → Obj) = f
  have hfo : f (viter d i es.length ep) = viter d (i + 1) es.length ep := by subst hf; kernel_rfl
  have ho' : (hh.update it f).get? it = some (viter d (i + 1) es.length ep) := by
    have := Heap.get?_update_self f ho (by rw [hfo]; rfl)
    rwa [hfo] at this
  have hs : Heap.SameBut it hh (hh.update it f) := Heap.SameBut.update ..
  dsimp only
  generalize hh.update it f = h2 at ho' hs
  repeat lk
  exact ⟨_, rfl, wpAny_pure (hQ _ ho' hs)⟩
theorem viter_end {Q : Option Value → Shared → Prop} (hh : A.handled = none) (ho : s.heap.get? it = some (viter d es.length es.length ep)) (hod : s.heap.get? d = some od) (hdd : od.data = .dict es.toArray ep)
    (hQ : ∀ h', Heap.ExtBut it s.heap h' → Q none { s with heap := h' }) : wpAny (model prog w) A (pyNext (.ref it)) Q E s := by
  have hT := viter_ty ho
  unfold pyNext
  refine wpAny_bind (wpAny_attempt (wpAny_callSpecial?_slot (name := Str.ofString "__next__") hT PySem.F.slot_dict_valueiterator_next
    (wpAny_call_entry PySem.F.slot_dict_valueiterator_next hT PySem.F.entry_dict_valueiterator_next ?_ (PySem.F.args_dict_valueiterator_next_1 _))))
  obtain ⟨hh', g, dr, t, os⟩ := s
  dsimp only at ho hod hT
  have l1 := lk_vtn (prog := prog) (w := w) ho
  have l2 := lk_vone (prog := prog) (w := w) ho
  unfold Builtin.«dict_valueiterator.__next__»
  obtain ⟨oc, odd, odt, osl⟩ := od
  dsimp only at hdd
  subst hdd
  repeat lk
  rw [if_neg (by simp)]
  repeat lk
  rw [if_neg (by simp)]
  repeat lk
  have hl : ¬ ((es.length : Int) < 0) := by omega
  rw [if_neg hl, Int.toNat_natCast, List.getElem?_toArray, List.getElem?_eq_none (Nat.le_refl _)]
  dsimp only
  repeat lk
  refine wpAny_update (o := viter d es.length es.length ep) ho ?_
  have hs : ∀ f, Heap.SameBut it hh' (hh'.update it f) := fun f => Heap.SameBut.update ..
  generalize hf : (Obj.mapFields _ : Obj → Obj) = f
  replace hs := hs f
  dsimp only
  generalize hh'.update it f = h2 at hs
  repeat lk
  have h3 : ∀ (o1 o2 : Obj), o2.isFreed = false → Heap.ExtBut it hh' ((h2.push o1).push o2) ∧ ((h2.push o1).push o2).get? (h2.push o1).objs.size = some o2 := fun o1 o2 hf =>
    ⟨(hs.extBut.push _).push _, Heap.get?_push_size _ hf⟩
  generalize ho1 : ({ cls := Value.type "tuple", data := Data.seq #[] } : Obj) = o1
  generalize ho2 : ({ cls := Value.type "StopIteration", data := _ } : Obj) = o2
  have c2 : o2.cls = .type "StopIteration" ∧ o2.isFreed = false := by subst ho2; exact ⟨rfl, rfl⟩
  obtain ⟨h4, h5⟩ := h3 o1 o2 c2.2
  generalize (h2.push o1).objs.size = ea at h5
  generalize (h2.push o1).push o2 = h6 at h4 h5
  refine wpAny_handled ?_
  rw [show A.in1.handled = none from hh]
  dsimp only
  repeat lk
  refine wpAny_throw ?_
  have t0 : Looks (model prog w) h6 (typeOf (.ref ea)) (.type "StopIteration") := c2.1 ▸ (Looks.ld h5).andThen .now
  have t2 : Looks (model prog w) h6 (isSubtype (.type "StopIteration") (.type "StopIteration")) true := Looks.of_pure (by rw [isSubtype_type]; kernel_rfl)
  have t1 : Looks (model prog w) h6 (isInstance (.ref ea) (.type "StopIteration")) true := t0.andThen t2
  refine wpAny_bind (t1.at ?_)
  exact wpAny_pure (hQ _ h4)
theorem viter_self {n : Nat} {Q : Value → Shared → Prop} (ho : s.heap.get? it = some (viter d i n ep)) (h : Q (.ref it) s) : wpAny (model prog w) A (pyIter (.ref it)) Q E s := by
  have hT := viter_ty ho
  refine wpAny_pyIter_slot hT PySem.F.slot_dict_valueiterator_iter (wpAny_call_entry PySem.F.slot_dict_valueiterator_iter hT PySem.entry_dict_valueiterator_iter ?_ (PySem.F.args_dict_valueiterator_iter_1 _))
  show wpAny _ _ (ret (.ref it)) _ _ s
  exact wpAny_pure ⟨_, rfl, "dict_valueiterator", _, hT, PySem.F.slot_dict_valueiterator_next.lookup, h⟩
theorem vwalk (hh : A.handled = none) (I d : Addr) (hne : d ≠ I) (es : List DictEntry) (ep : Nat) :
    Walks prog w A I [I, d] [I] es.length (fun i v => ∃ e, es[i]? = some e ∧ v = e.val) (fun i h => h.get? I = some (viter d i es.length ep) ∧ ∃ od, h.get? d = some od ∧ od.data = .dict es.toArray ep) where
  sub := fun b hb => by simp at hb; simp [hb]
  frame := fun _ _ _ st hk => ⟨hk I (by simp) _ st.1, let ⟨od, h1, h2⟩ := st.2; ⟨od, hk d (by simp) _ h1, h2⟩⟩
  item := fun i s Q E hi st hQ => by
    obtain ⟨h1, od, h2, h3⟩ := st
    refine viter_next (e := es[i]) h1 h2 h3 (by simp [hi]) fun h' ho' hs' => ?_
    exact hQ _ h' s.toks ⟨es[i], by simp [hi], rfl⟩ ⟨ho', od, (hs'.2 d hne).trans h2, h3⟩ fun b o hb e => hs'.extBut b o (fun h => hb (by simp [h])) e
  done := fun s Q E st hQ => by
    obtain ⟨h1, od, h2, h3⟩ := st
    exact viter_end hh h1 h2 h3 fun h' he' => hQ h' s.toks fun b o hb e => he' b o (fun h => hb (by simp [h])) e
  self := fun _ _ _ _ st hQ => viter_self st.1 hQ
end

end

section
open PySem PySem.W PySem.Calls PyProof.Rows
set_option maxHeartbeats 4000000
theorem vals_at {es : List DictEntry} {c : List (Int × Int)} (h : Ents es c) {i : Nat} {e : DictEntry} (he : es[i]? = some e) : ∃ t, e.val = .int ((c.map (·.2)).getD i 0) t := by
  obtain ⟨k, v, t, u, h1, rfl⟩ := h.row he
  exact ⟨u, by simp [List.getD, h1]⟩
theorem preSum_getD (l : List Int) : preSum (fun i => l.getD i 0) l.length = l.sum := by
  have : ∀ n, n ≤ l.length → preSum (fun i => l.getD i 0) n = (l.take n).sum := by
    intro n
    induction n with
    | zero => intro _; rfl
    | succ n ih =>
      intro hn
      have hg : l[n]? = some l[n] := List.getElem?_eq_getElem (by omega)
      show preSum (fun i => l.getD i 0) n + l.getD n 0 = _
      rw [ih (by omega), List.take_add_one, hg, List.sum_append, List.getD, hg]
      simp
  rw [this _ (Nat.le_refl _), List.take_length]
section
variable {prog : Program} {w : World} {A : Around} {E : Value → Shared → Prop} {s : Shared} {x v d : Addr} {b : Bool} {o : Obj} {es : List DictEntry} {n : Nat} {c : List (Int × Int)}
theorem view_iter {Q : Value → Shared → Prop} (hv : s.heap.get? v = some (viewO d)) (D : DAt s.heap b d o es n c)
    (hQ : Q (.ref s.heap.objs.size) { s with heap := s.heap.push (viter d 0 es.length n) }) : wpAny (model prog w) A (pyIter (.ref v)) Q E s := by
  have hT : s.TypeIs (.ref v) "dict_values" := ⟨_, hv, rfl⟩
  refine wpAny_pyIter_slot hT PySem.F.slot_dict_values_iter (wpAny_call_entry PySem.F.slot_dict_values_iter hT PySem.F.entry_dict_values_iter ?_ (PySem.F.args_dict_values_iter_1 _))
  unfold Builtin.«dict_values.__iter__»
  refine wpAny_bind (wpAny_pure ?_)
  refine wpAny_bind ?_
  unfold Builtin.Dict_items.dictOf
  refine wpAny_bind (wpAny_field hv rfl (x := .ref d) rfl (wpAny_pure ?_))
  refine wpAny_bind ?_
  unfold Builtin.Dict_items.newIterator
  refine wpAny_bind (wpAny_dictEntries D.at_ D.data ?_)
  refine wpAny_bind (wpAny_dictEpoch D.at_ D.data ?_)
  have hown : Builtin.Dict_items.ownsTuple "dict_valueiterator" = false := by decide
  simp only [hown, Bool.false_eq_true, if_false]
  refine wpAny_newObj_type (wpAny_pure ⟨_, rfl, "dict_valueiterator", _, ⟨_, Heap.get?_push_size _ rfl, rfl⟩, PySem.F.slot_dict_valueiterator_next.lookup, ?_⟩)
  simpa [rawInt, viter] using hQ
theorem call_values {Q : Value → Shared → Prop} (X : (KF w).In s.heap) (D : DAt s.heap b d o es n c)
    (h : Q (.ref s.heap.objs.size) { s with heap := s.heap.push (viewO d) }) : wpAny (model prog w) A (call (.builtin "dict.values") [.ref d]) Q E s := by
  refine call_meth (nm := "values") PySem.F.slot_dict_values.plain PySem.F.entry_dict_values (by decide +kernel) (by decide +kernel) (D.isd X) (PySem.F.args_dict_values_1 _) ?_
  unfold Builtin.«dict.values»
  refine wpAny_bind ?_
  unfold Builtin.Dict.noArgs Builtin.Dict.notOrdered
  have hin : ["clear", "keys", "values", "items", "popitem", "__reversed__", "__iter__", "__repr__", "pop", "setdefault", "update", "__init__", "__setitem__", "__delitem__", "__ior__"].contains "values" = true := by decide
  rw [if_pos hin]
  have t3 := (looks_subIn (M := model prog w) X (kd_od w b))
  have fin : wpAny (model prog w) A.in1 (Builtin.Dict.showsAll d >>= fun _ => do ret (← newFields "dict_values" [.ref d])) (fun fin s' => ∃ v, fin = .done (.ret v) ∧ Q v s') E s := by
    unfold Builtin.Dict.showsAll
    rw [if_neg (by rw [D.sys]; exact Bool.false_ne_true)]
    refine wpAny_bind (wpAny_pure ?_)
    exact wpAny_bind (wpAny_newObj_type (wpAny_pure ⟨_, rfl, h⟩))
  refine wpAny_bind (wpAny_bind (D.type.here ?_))
  cases b with
  | false => exact wpAny_pure (wpAny_pure fin)
  | true =>
    rw [if_pos (by decide)]
    refine wpAny_bind ((D.type.andThen t3).here ?_)
    exact wpAny_pure (wpAny_pure fin)
theorem sum_view {Q : Value → Shared → Prop} (hA : A.handled = none) (hv : s.heap.get? v = some (viewO d)) (D : DAt s.heap b d o es n c)
    (h : ∀ h' tk u, (∀ b o, s.heap.get? b = some o → h'.get? b = some o) → Q (.int (c.map (·.2)).sum u) { s with heap := h', toks := tk }) : wpAny (model prog w) A (call (.builtin "sum") [.ref v]) Q E s := by
  have hlt := Heap.lt_size D.at_
  refine call_sum_walkG (view_iter hv D ?_)
  refine ⟨s.heap.objs.size, [s.heap.objs.size, d], [s.heap.objs.size], es.length, _, _, (fun i => (c.map (·.2)).getD i 0), rfl, vwalk (by simpa using hA) _ d (Nat.ne_of_lt hlt) es n,
    ⟨Heap.get?_push_size _ rfl, o, Heap.get?_push_of_some _ D.at_, D.data⟩, ?_, ?_, ?_⟩
  · intro b hb
    rw [Heap.size_push]
    rcases List.mem_cons.mp hb with rfl | hb
    · exact Nat.lt_succ_self _
    · rw [List.mem_singleton.mp hb]; exact Nat.lt_succ_of_lt hlt
  · rintro i v ⟨e, he, rfl⟩
    exact vals_at D.ents he
  · intro h' tk u hk
    have e : preSum (fun i => (c.map (·.2)).getD i 0) es.length = (c.map (·.2)).sum := by
      have := preSum_getD (c.map (·.2))
      rw [List.length_map] at this
      rw [D.ents.length]; exact this
    rw [e]
    refine h h' tk u fun b o hb => hk b o ?_ (Heap.get?_push_of_some _ hb)
    simp only [List.mem_cons, List.not_mem_nil, or_false]
    exact Nat.ne_of_lt (Heap.lt_size hb)
end

end

section
open PySem PySem.W PySem.Calls PyProof.Rows
set_option maxHeartbeats 4000000
abbrev ent (w : World) (nm : String) (v : Value) (t : Tok) : DictEntry := { hash := PyData.keyHash w.params (Str.ofString nm), key := .str (Str.ofString nm) t, val := v }
abbrev attr3 (w : World) (b : Bool) (tq t1 t2 t3 : Tok) : List DictEntry := [ent w "qval" (.int 1 tq) t1, ent w "as_set" (.bool b) t2, ent w "external" (.bool true) t3]
abbrev attr5 (w : World) (b : Bool) (ks : Addr) (tq t1 t2 t3 t4 t5 : Tok) : List DictEntry := [ent w "qval" (.int 1 tq) t1, ent w "ks" (.ref ks) t2, ent w "bias" .none t3, ent w "as_set" (.bool b) t4, ent w "external" (.bool true) t5]
/-- the measures' own dicts -/
inductive MK (w : World) (b : Bool) : Addr → List DictEntry → Prop
  | j (tq t1 t2 t3 : Tok) : MK w b 270 (attr3 w b tq t1 t2 t3)
  | s (tq t1 t2 t3 : Tok) : MK w b 304 (attr3 w b tq t1 t2 t3)
  | o (tq t1 t2 t3 : Tok) : MK w b 368 (attr3 w b tq t1 t2 t3)
  | t (ks : Addr) (tq t1 t2 t3 t4 t5 : Tok) : MK w b 336 (attr5 w b ks tq t1 t2 t3 t4 t5)
structure Meas (h : Heap) (x dx C : Addr) (es : List DictEntry) (n : Nat) : Prop where
  at_ : h.get? x = some (instObj C dx)
  dat : h.get? dx = some (dictOf es n)
theorem Meas.keep {h h' : Heap} {x dx C : Addr} {es : List DictEntry} {n : Nat} (M : Meas h x dx C es n) (k : ∀ b o, h.get? b = some o → h'.get? b = some o) : Meas h' x dx C es n := ⟨k _ _ M.at_, k _ _ M.dat⟩
theorem Meas.inst {h : Heap} {x dx C : Addr} {es : List DictEntry} {n : Nat} (M : Meas h x dx C es n) : InstAt h x (instObj C dx) C (some (dictOf es n)) := ⟨M.at_, rfl, rfl, M.dat⟩
theorem Meas.instF {h₀ h : Heap} {L x dx C : Addr} {m : Str → Option Value} {es : List DictEntry} {n : Nat} (F : Fr h₀ L h m) (M : Meas h₀ x dx C es n) : InstAt h x (instObj C dx) C (some (dictOf es n)) := (M.keep F.keep).inst

end

open PySem PySem.W PySem.Calls PyProof.Rows
local macro_rules | `(tactic| k_inst) => `(tactic| (refine' Meas.instF ?F ?M; (case M => assumption); (case F => k_asm)))

section
open PySem PySem.W PySem.Calls PyProof.Rows Builtin Builtin.ObjectAttr
set_option maxHeartbeats 4000000
theorem args_getattr_3 (a b c : Value) : argsOk "getattr" ⟨[a, b, c], []⟩ := by unfold argsOk; kernel_rfl
section
variable {prog : Program} {w : World} {A : Around} {E : Value → Shared → Prop} {s : Shared} {K : Frag} {x C f L : Addr} {ox : Obj} {od : Obj} {name : Str} {h₀ : Heap} {m : Str → Option Value} {news : List (Addr × Obj)} {es : List DictEntry} {n : Nat} {t : Tok}
theorem g3_open {Q : Option Value → Shared → Prop} (X : K.In s.heap) (I : InstAt s.heap x ox C (some od)) (hga : findIn K (.ref C) "__getattribute__" = some (some (.builtin "object.__getattribute__")))
    (h : wpAny (model prog w) A.in1 (Builtin.«proto.getattr_hooked» ⟨[.ref x, .str name t], []⟩)
      (fun fin s' => match fin with | .done (.ret v) => wpAny (model prog w) A (handedOut v) (fun v s'' => Q (some v) s'') (fun _ _ => False) s' | _ => False) (fun _ _ => False) s) :
    wpAny (model prog w) A (getAttrBy? (.ref x) (.str name t)) Q E s := by
  obtain ⟨hh, g, d, tk, os⟩ := s
  have L0 := I.type (M := model prog w)
  have L1 := looks_findIn (M := model prog w) X hga
  unfold getAttrBy? getAttrBy
  refine wpAny_bind (wpAny_attempt (wpAny_holding (wpAny_bind (L0.at (wpAny_bind (L1.at ?_))))))
  show wpAny _ _ (getAttrEveryday _ _ _) _ _ _
  refine wpAny_bind (wpAny_onRaise (wpAny_runValue (codeAny_builtin F.plainObj_entry_getattr_hooked (wpAny_mono h (fun fin s' z => ?_) fun _ _ z => z.elim))))
  rcases fin with (_ | _ | _ | _) | _ <;> first | exact wpAny_mono z (fun v s'' hv => wpAny_pure hv) (fun _ _ z => z.elim) | exact z.elim
theorem g3_own {v : Value} {Q : Option Value → Shared → Prop} {attr : Option Value} (X : K.In s.heap) (I : InstAt s.heap x ox C (some (dictOf es n))) (hg : plainGet K C name = true) (hh : hasDictIn K C = true)
    (ha : findIn K (.ref C) name = some attr) (hn : noGet K attr = true) (hl : getL name es = some (some v)) (hv : handedIn v = true) (h : Q (some v) s) : wpAny (model prog w) A (getAttrBy? (.ref x) (.str name t)) Q E s := by
  have hf : findObj K C (some (dictOf es n)) name = some (.value v) := findObj_own hh ha hn (by show lookIn name (dictOf es n) = _; rw [lookIn_dict, hl])
  refine g3_open X I (plainGet_of hg).1 ?_
  obtain ⟨hh', g, d, tk, os⟩ := s
  have L0 := I.type (M := model prog w)
  have L1 := looks_find (M := model prog w) X I hf
  refine wpAny_bind (wpAny_pure (wpAny_bind (L0.at (wpAny_bind (L1.at ?_)))))
  refine wpAny_pure ?_
  show wpAny _ _ (handedOut v) _ _ _
  rw [handedOut_of hv]; exact wpAny_pure h
theorem g3_call {v dflt : Value} {Q : Value → Shared → Prop} {attr : Option Value} (F : Fr h₀ L s.heap m) (X₀ : K.In h₀) (I : InstAt s.heap x ox C (some (dictOf es n))) (hg : plainGet K C "as_set" = true) (hh : hasDictIn K C = true)
    (ha : findIn K (.ref C) "as_set" = some attr) (hn : noGet K attr = true) (hl : getL "as_set" es = some (some v)) (hv : handedIn v = true) (hm : subIn K (.ref C) (.type "module") = some false) (h : Q v s) :
    wpAny (model prog w) A (call (.builtin "getattr") [.ref x, .str "as_set" t, dflt]) Q E s := by
  have X := X₀.keeps F.keep
  refine Calls.call_function_entry KB.kind_getattr KB.plain_getattr KB.entry_getattr (args_getattr_3 _ _ _) ?_
  unfold Builtin.«getattr»
  have hi : Looks (model prog w) s.heap (isInstance (.ref x) (.type "module")) false := I.type.andThen (looks_subIn X hm)
  have one : ∀ (Q : Option Value → Shared → Prop), Q (some v) s → wpAny (model prog w) A.in1 (getAttrBy? (.ref x) (.str "as_set" t)) Q E s := fun Q q => g3_own X I hg hh ha hn hl hv q
  refine wpAny_bind (wpAny_of_eq (a := [.ref x, .str "as_set" t, dflt]) (by first | rfl | kernel_rfl) ?_)
  dsimp only
  refine wpAny_bind (wpAny_of_eq (a := ()) (by first | rfl | kernel_rfl) ?_)
  refine wpAny_bind (wpAny_of_eq (a := none) (by first | rfl | kernel_rfl) ?_)
  dsimp only
  refine wpAny_bind ?_
  refine wpAny_bind (wpAny_of_eq (a := some ("as_set" : Str)) (by first | rfl | kernel_rfl) ?_)
  dsimp only
  refine wpAny_bind (hi.here ?_)
  rw [if_pos (by decide)]
  refine wpAny_pure ?_
  rw [if_neg (by decide)]
  refine wpAny_bind (one _ ?_)
  exact wpAny_pure ⟨_, rfl, h⟩
end

end

open PySem PySem.W PySem.Calls PyProof.Rows
local macro_rules | `(tactic| walk_at "call builtin:getattr") => `(tactic| (k_here; (with_reducible show wpAny _ _ (call (Value.builtin _) [_, Value.str _ _, _]) _ _ _); (refine' g3_call ?k1 ?k2 ?k3 ?k4 ?k5 ?k6 ?k7 ?k8 ?k9 ?k10 ?_; (case k1 => k_asm); (case k2 => k_asm); (case k3 => k_inst); (case k4 => k_is); (case k5 => k_is); (case k6 => k_is); (case k7 => k_is); (case k8 => k_get); (case k9 => k_handed); (case k10 => k_is))))

section
open PySem PySem.W PySem.Calls PyProof.Rows
set_option maxHeartbeats 4000000
/-- the tree ends and gives a value of the shape v; what stood stands -/
def GivesV (M : Model) (A : Around) (s : Shared) (t : Sem Value) (v : Tok → Value) : Prop :=
  ∀ (Q E : Value → Shared → Prop), (∀ u h' tk, (∀ b o, s.heap.get? b = some o → h'.get? b = some o) → Q (v u) { s with heap := h', toks := tk }) → wpAny M A t Q E s
/-- how many letters a Counter counts -/
def cc (b : Bool) (c : List (Int × Int)) : Int := if b then (c.length : Int) else (c.map (·.2)).sum
local macro_rules | `(tactic| walk_at "getMethod ref") => `(tactic| (k_here; (with_reducible show wpAny _ _ (getMethod (Value.ref _) (PySem.Str.ofString "values") _) _ _ _); refine Halt.out ?_))
theorem MK.as_set {w : World} {b : Bool} {C : Addr} {es : List DictEntry} (K : MK w b C es) : plainGet (hd.heap_39 w.params) C "as_set" = true ∧ hasDictIn (hd.heap_39 w.params) C = true ∧ findIn (hd.heap_39 w.params) (.ref C) "as_set" = some none ∧ subIn (hd.heap_39 w.params) (.ref C) (.type "module") = some false ∧ getL "as_set" es = some (some (.bool b)) := by
  cases K <;> exact ⟨by k_is, by k_is, by k_is, by k_is, by k_get⟩
local macro_rules | `(tactic| k_is) => `(tactic| with_reducible assumption)
local macro_rules | `(tactic| k_get) => `(tactic| with_reducible assumption)
theorem gives_count {prog : Program} {w : World} {A : Around} {p : Program} {loose : List Str} {mg mb : Str → Option Value} {s : Shared} {x dx C d : Addr} {es : List DictEntry} {n : Nat} {b : Bool} {c : List (Int × Int)}
    (X : (hd.heap_39 w.params).In s.heap) (T : TopRead p loose mg mb s.heap) (hA : A.handled = none) (hd : A.depth + 10 < recursionLimit) (hu : A.units + 40 < cLine)
    (M : Meas s.heap x dx C es n) (K : MK w b C es) (Cd : CAt s.heap d c) : GivesV (model prog w) A s (call (.ref 198) [.ref x, .ref d]) (fun u => .int (cc b c) u) := by
  intro Q E hQ
  refine wpAny_call ?_
  have hk : ∀ b o, s.heap.get? b = some o → s.heap.get? b = some o := fun _ _ e => e
  have hz : s.heap.objs.size ≤ s.heap.objs.size := Nat.le_refl _
  have hn : ∀ q ∈ ([] : List (Addr × Obj)), s.heap.get? q.1 = some q.2 ∧ s.heap.get? q.1 = none := fun _ h => nomatch h
  walk_at "m_enter"
  intro L' h₁ F N hk₁
  obtain ⟨cdx, ces, cn, D, cm⟩ := Cd.dat
  obtain ⟨a1, a2, a3, a4, a5⟩ := K.as_set
  k_steps
  · refine set_ctr (by walk_at "m_hand") (X.keeps F.keep) (D.keep F.keep) Cd.nodup Cd.small ?_
    intro S h' tk hS k
    have F2 := fr_grow F k
    have N2 := news_grow N k
    clear F N
    k_steps
    refine len_set hS (Nat.le_trans Cd.small (by decide)) ?_
    intro tk u
    k_steps
    have hb : b = true := by assumption
    have q := hQ u h' tk F2.keep
    rw [hb] at q
    exact q
  · refine ⟨?_⟩
    refine ctr_method (X.keeps F.keep) (F.keep _ _ D.at_) rfl rfl (F.keep _ _ cm) (kc_values w) (Looks.of_pure PySem.F.type_dict_values) (by decide) ?_
    k_steps
    refine call_values (X.keeps F.keep) (D.keep F.keep) ?_
    have k : ∀ b o, h₁.get? b = some o → (h₁.push (viewO d)).get? b = some o := fun b o e => Heap.get?_push_of_some _ e
    have hv : (h₁.push (viewO d)).get? h₁.objs.size = some (viewO d) := Heap.get?_push_size _ rfl
    have F2 := fr_grow F k
    have N2 := news_grow N k
    clear F N
    k_steps
    refine sum_view (by walk_at "m_hand") hv (D.keep F2.keep) ?_
    intro h' tk u k
    have F3 := fr_grow F2 k
    have N3 := news_grow N2 k
    clear F2 N2
    k_steps
    have hb : b = false := by first | assumption | exact Bool.eq_false_iff.mpr (by assumption)
    have q := hQ u h' tk F3.keep
    rw [hb] at q
    exact q

end

section
open PySem PySem.W PySem.Calls PyProof.Rows
set_option maxHeartbeats 4000000
abbrev tupO (vs : List Value) : Obj := { cls := .type "tuple", data := .seq vs.toArray }
section
variable {prog : Program} {w : World} {A : Around} {s : Shared} {R : Result → Shared → Prop} {name qual : Str} {params : Arguments} {body : List Stmt} {scope : Scope} {dV kV doc pm cdv ct oc : Value} {an od : Option Addr} {osl : Array (Option Value)} {f : Addr} {args : Args} {front : List (Str × Value)} {nm : Str} {vs : List Value}
  {p : Program} {loose : List Str} {mg mb : Str → Option Value}
/-- into a def with a star parameter; the base is the whole heap at the call -/
theorem enterVC (X : (hd.heap_39 w.params).In s.heap) (T : TopRead p loose mg mb s.heap)
    (ho : (hd.heap_39 w.params).lookup f = some ⟨oc, od, .func (fnOf name qual params body scope dV kV doc pm an cdv ct), osl⟩) (hcd : codeIn (hd.heap_39 w.params) cdv qual = true) (hroom : A.depth < recursionLimit)
    (hbind : bindArgs (fnOf name qual params body scope dV kV doc pm an cdv ct) args = (newTuple vs >>= fun t => pure (front ++ [(nm, t)])))
    (hkind : ∀ D, ((front ++ [(nm, Value.ref D)]).all fun y => scope.names.lookup y.1 == some .local || scope.names.lookup y.1 == some .cell) = true)
    (hnd : ((cellsFrom 0 scope.names []).map (·.1)).Nodup) (hvs : vs.length ≤ 100)
    (h : ∀ D L' h₁ tk cells, Fr s.heap L' h₁ (bindL (envOfC qual scope L' f cdv).kindOf (front ++ [(nm, Value.ref D)]) fun _ => none) → News s.heap L' h₁ ((D, tupO vs) :: cells) →
      CellsAre (bindC (envOfC qual scope L' f cdv).kindOf (front ++ [(nm, Value.ref D)]) fun _ => none) (cellsFrom (L' + 1) scope.names []) cells → (∀ n c, (n, c) ∈ cellsFrom (L' + 1) scope.names [] → L' < c) → D < L' →
      wpAny (model prog w) (A.deeper (envOfC qual scope L' f cdv)) (execs body (envOfC qual scope L' f cdv))
        (fun fl s' => R (.ok (.ret (match fl with | .ret v => v | _ => .none))) s')
        (fun e s' => wpAny (model prog w) (A.deeper (envOfC qual scope L' f cdv)) (leaving (envOfC qual scope L' f cdv) e) (fun _ s'' => R (.error e) s'') (fun e' s'' => R (.error e') s'') s')
        { s with heap := h₁, toks := tk })
    (hco : scope.isCoroutine = false) (hgen : scope.isGenerator = false) (hk : scope.kind = .function) : codeAny (model prog w) A (.call (.ref f) args) R s := by
  refine codeAny_call_function hroom (X _ _ ho) rfl hco hgen rfl (codeRec_of X hcd) ?_
  rw [hbind]
  refine wpAny_bind ?_
  unfold newTuple
  have hsz : sizeOk (.seq vs.toArray : Data) := by
    show vs.toArray.size ≤ sizeLine
    rw [sizeLine_eq, List.size_toArray]; omega
  refine wpAny_newObj_type (wpAny_pure ?_) hsz
  have hk0 : ∀ b o, s.heap.get? b = some o → (s.heap.push (tupO vs)).get? b = some o := fun b o e => Heap.get?_push_of_some _ e
  have hD : (s.heap.push (tupO vs)).get? s.heap.objs.size = some (tupO vs) := Heap.get?_push_size _ rfl
  have hs1 : (s.heap.push (tupO vs)).objs.size = s.heap.objs.size + 1 := Heap.size_push ..
  refine wpAny_newFunctionEnv_cells hk (kindsX (hkind _) _) fun env' he s' x => ?_
  subst he
  refine ⟨((T.nolimit).keeps hk0).keeps x.toInCall.keep, codeAny_func ?_⟩
  obtain ⟨h₁, tk, rfl, _⟩ := x.done
  have hk₁ : ∀ b o, (s.heap.push (tupO vs)).get? b = some o → h₁.get? b = some o := x.toInCall.keep
  have hab : ∀ n c, (n, c) ∈ cellsFrom ((s.heap.push (tupO vs)).objs.size + 1) scope.names [] → (s.heap.push (tupO vs)).objs.size < c := x.above
  obtain ⟨cells, NC, Y⟩ := Cl.news (h₀ := s.heap.push (tupO vs)) (Nat.le_refl _) fun n c hm => ⟨x.cell n c (lookup_of_mem_nodup (cellsFrom_names scope.names 0 ((s.heap.push (tupO vs)).objs.size + 1) [] [] rfl ▸ hnd) hm), x.above n c hm⟩
  refine h s.heap.objs.size (s.heap.push (tupO vs)).objs.size h₁ tk cells ⟨x.toInCall.ns, fun b o e => hk₁ b o (hk0 b o e), by rw [hs1]; exact Nat.le_succ _⟩ ?_ Y hab (by rw [hs1]; exact Nat.lt_succ_self _)
  intro q hq
  rcases List.mem_cons.mp hq with rfl | hq
  · exact ⟨hk₁ _ _ hD, by rw [hs1]; exact Nat.ne_of_lt (Nat.lt_succ_self _), Heap.get?_none_of_le (Nat.le_refl _)⟩
  · have := NC q hq
    exact ⟨this.1, this.2.1, get_none hk0 this.2.2⟩
/-- the same, of a def without cells -/
theorem enterV (X : (hd.heap_39 w.params).In s.heap) (T : TopRead p loose mg mb s.heap)
    (ho : (hd.heap_39 w.params).lookup f = some ⟨oc, od, .func (fnOf name qual params body scope dV kV doc pm an cdv ct), osl⟩) (hcd : codeIn (hd.heap_39 w.params) cdv qual = true) (hroom : A.depth < recursionLimit)
    (hbind : bindArgs (fnOf name qual params body scope dV kV doc pm an cdv ct) args = (newTuple vs >>= fun t => pure (front ++ [(nm, t)])))
    (hkind : ∀ D, ((front ++ [(nm, Value.ref D)]).all fun y => scope.names.lookup y.1 == some .local || scope.names.lookup y.1 == some .cell) = true)
    (hce : ∀ L, cellsFrom L scope.names [] = []) (hvs : vs.length ≤ 100)
    (h : ∀ D L' h₁ tk, Fr s.heap L' h₁ (bindL (envOf qual scope L' f cdv).kindOf (front ++ [(nm, Value.ref D)]) fun _ => none) → News s.heap L' h₁ [(D, tupO vs)] → D < L' →
      wpAny (model prog w) (A.deeper (envOf qual scope L' f cdv)) (execs body (envOf qual scope L' f cdv))
        (fun fl s' => R (.ok (.ret (match fl with | .ret v => v | _ => .none))) s')
        (fun e s' => wpAny (model prog w) (A.deeper (envOf qual scope L' f cdv)) (leaving (envOf qual scope L' f cdv) e) (fun _ s'' => R (.error e) s'') (fun e' s'' => R (.error e') s'') s')
        { s with heap := h₁, toks := tk })
    (hco : scope.isCoroutine = false) (hgen : scope.isGenerator = false) (hk : scope.kind = .function) : codeAny (model prog w) A (.call (.ref f) args) R s := by
  have he : ∀ L, envOfC qual scope L f cdv = envOf qual scope L f cdv := fun L => by unfold envOfC envOf; rw [hce]
  refine enterVC X T ho hcd hroom hbind hkind (by rw [hce]; exact List.nodup_nil) hvs (fun D L' h₁ tk cells F N Y _ hl => ?_) hco hgen hk
  rw [hce] at Y
  cases Y
  rw [he] at F ⊢
  exact h D L' h₁ tk F N hl
end

end

section
open PySem PySem.W PySem.Calls PyProof.Rows
set_option maxHeartbeats 4000000
section
variable {w : World} {b : Bool} {C : Addr} {es : List DictEntry}
theorem MK.qval (K : MK w b C es) : plainGet (hd.heap_39 w.params) C "qval" = true ∧ hasDictIn (hd.heap_39 w.params) C = true ∧ findIn (hd.heap_39 w.params) (.ref C) "qval" = some none ∧ ∃ tq, getL "qval" es = some (some (.int 1 tq)) := by
  cases K <;> exact ⟨by k_is, by k_is, by k_is, _, by k_get⟩
theorem MK.seqs (K : MK w b C es) : plainGet (hd.heap_39 w.params) C "_get_sequences" = true ∧ hasDictIn (hd.heap_39 w.params) C = true ∧ findIn (hd.heap_39 w.params) (.ref C) "_get_sequences" = some (some (.ref 165)) ∧ getL "_get_sequences" es = some none := by
  cases K <;> exact ⟨by k_is, by k_is, by k_is, by k_get⟩
theorem MK.ident (K : MK w b C es) : plainGet (hd.heap_39 w.params) C "_ident" = true ∧ hasDictIn (hd.heap_39 w.params) C = true ∧ findIn (hd.heap_39 w.params) (.ref C) "_ident" = some (some (.ref 159)) ∧ getL "_ident" es = some none := by
  cases K <;> exact ⟨by k_is, by k_is, by k_is, by k_get⟩
theorem MK.sim (K : MK w b C es) : plainGet (hd.heap_39 w.params) C "similarity" = true ∧ findIn (hd.heap_39 w.params) (.ref C) "similarity" = some (some (.ref 226)) ∧ getL "similarity" es = some none := by
  cases K <;> exact ⟨by k_is, by k_is, by k_get⟩
theorem MK.maximum (K : MK w b C es) : ∃ f, (f = 260 ∨ f = 294 ∨ f = 328 ∨ f = 360) ∧ plainGet (hd.heap_39 w.params) C "maximum" = true ∧ findIn (hd.heap_39 w.params) (.ref C) "maximum" = some (some (.ref f)) ∧ isFn (hd.heap_39 w.params) (.ref f) = true ∧
    specialIn (hd.heap_39 w.params) (.ref f) "__get__" = some (some (.builtin "function.__get__")) ∧ takesIn (hd.heap_39 w.params) (.ref f) = some false ∧ fnIn (hd.heap_39 w.params) f = true ∧ getL "maximum" es = some none := by
  cases K
  · exact ⟨260, .inl rfl, by kernel_rfl, by kernel_rfl, by kernel_rfl, by kernel_rfl, by kernel_rfl, by kernel_rfl, by k_get⟩
  · exact ⟨294, .inr (.inl rfl), by kernel_rfl, by kernel_rfl, by kernel_rfl, by kernel_rfl, by kernel_rfl, by kernel_rfl, by k_get⟩
  · exact ⟨360, .inr (.inr (.inr rfl)), by kernel_rfl, by kernel_rfl, by kernel_rfl, by kernel_rfl, by kernel_rfl, by kernel_rfl, by k_get⟩
  · exact ⟨328, .inr (.inr (.inl rfl)), by kernel_rfl, by kernel_rfl, by kernel_rfl, by kernel_rfl, by kernel_rfl, by kernel_rfl, by k_get⟩
end

end

section
open PySem PySem.W PySem.Calls PyProof.Rows
set_option maxHeartbeats 400000
/-- how often a Counter has a letter -/
def cval (c : List (Int × Int)) (x : Int) : Int := (cget c x).getD 0
theorem cval_nil (x : Int) : cval [] x = 0 := rfl
theorem cval_cons (k v : Int) (r : List (Int × Int)) (x : Int) : cval ((k, v) :: r) x = if k = x then v else cval r x := by
  unfold cval; rw [cget]; split <;> rfl
theorem cget_none {c : List (Int × Int)} {x : Int} (h : x ∉ c.map (·.1)) : cget c x = none := by
  induction c with
  | nil => rfl
  | cons p r ih =>
    obtain ⟨k, v⟩ := p
    simp only [List.map_cons, List.mem_cons, not_or] at h
    rw [cget, if_neg (fun e => h.1 e.symm)]
    exact ih h.2
theorem cget_some {c : List (Int × Int)} {x : Int} (h : x ∈ c.map (·.1)) : ∃ v, cget c x = some v := by
  induction c with
  | nil => simp at h
  | cons p r ih =>
    obtain ⟨k, v⟩ := p
    rw [cget]
    by_cases e : k = x
    · exact ⟨v, if_pos e⟩
    · rw [if_neg e]
      simp only [List.map_cons, List.mem_cons] at h
      exact ih (h.resolve_left fun q => e q.symm)
theorem cval_none {c : List (Int × Int)} {x : Int} (h : x ∉ c.map (·.1)) : cval c x = 0 := by unfold cval; rw [cget_none h]; rfl
theorem cget_put (c : List (Int × Int)) (k v x : Int) : cget (cput c k v) x = if k = x then some v else cget c x := by
  induction c with
  | nil => rw [cput, cget, cget, cget]
  | cons p r ih =>
    obtain ⟨a, b⟩ := p
    rw [cput]
    by_cases e : a = k
    · rw [if_pos e, cget, cget, e]; by_cases q : k = x <;> simp [q]
    · rw [if_neg e, cget, cget, ih]
      by_cases q : k = x
      · rw [if_pos q, if_neg (fun z => e (z.trans q.symm)), if_pos q]
      · rw [if_neg q, if_neg q]
theorem cval_put (c : List (Int × Int)) (k v x : Int) : cval (cput c k v) x = if k = x then v else cval c x := by
  unfold cval; rw [cget_put]; split <;> rfl
theorem mem_keys {c : List (Int × Int)} {x : Int} : x ∈ c.map (·.1) ↔ (cget c x).isSome = true := by
  constructor
  · intro h; obtain ⟨v, e⟩ := cget_some h; rw [e]; rfl
  · intro h
    apply Classical.byContradiction
    intro q; rw [cget_none q] at h; cases h
theorem sum_if {ks : List Int} (hn : ks.Nodup) {k : Int} (a : Int) (h : Int → Int) (hk : k ∈ ks) (h0 : h k = 0) : (ks.map fun x => if k = x then a else h x).sum = a + (ks.map h).sum := by
  induction ks with
  | nil => cases hk
  | cons z zs ih =>
    rw [List.nodup_cons] at hn
    simp only [List.map_cons, List.sum_cons]
    by_cases e : k = z
    · subst e
      rw [if_pos rfl, h0]
      have : (zs.map fun x => if k = x then a else h x) = zs.map h := List.map_congr_left fun x hx => if_neg (fun (q : k = x) => hn.1 (by rw [q]; exact hx))
      rw [this]; omega
    · rw [if_neg e]
      have := ih hn.2 ((List.mem_cons.mp hk).resolve_left e)
      omega
theorem sum_zero {ks : List Int} {h : Int → Int} (h0 : ∀ x ∈ ks, h x = 0) : (ks.map h).sum = 0 := by
  induction ks with
  | nil => rfl
  | cons z zs ih =>
    simp only [List.map_cons, List.sum_cons]
    rw [h0 z (.head _), ih fun x hx => h0 x (.tail _ hx)]; rfl
/-- the sum over a Counter's rows is the sum over any list of its letters -/
theorem sum_rows (g : Int → Int) (g0 : g 0 = 0) {ks : List Int} (hk : ks.Nodup) : ∀ {c : List (Int × Int)}, (c.map (·.1)).Nodup → (∀ x ∈ c.map (·.1), x ∈ ks) → (ks.map fun x => g (cval c x)).sum = (c.map fun p => g p.2).sum
  | [], _, _ => by
    rw [sum_zero]; rfl
    intro x _; rw [cval_nil, g0]
  | (k, v) :: r, hn, hs => by
    simp only [List.map_cons, List.nodup_cons] at hn
    simp only [List.map_cons, List.sum_cons]
    have := sum_rows g g0 hk hn.2 fun x hx => hs x (by simp only [List.map_cons]; exact .tail _ hx)
    rw [← this, ← sum_if hk (k := k) (g v) (fun x => g (cval r x)) (hs k (by simp)) (by rw [cval_none hn.1, g0])]
    congr 1
    refine List.map_congr_left fun x _ => ?_
    rw [cval_cons]
    split <;> rfl
/-- as often as it counts -/
def many (b : Bool) (v : Int) : Int := if b then min v 1 else v
theorem many_zero (b : Bool) : many b 0 = 0 := by cases b <;> rfl
/-- a Counter as the program keeps it -/
structure Good (c : List (Int × Int)) : Prop where
  nodup : (c.map (·.1)).Nodup
  pos : ∀ p ∈ c, 0 < p.2
theorem Good.sum {c : List (Int × Int)} (G : Good c) {b : Bool} {ks : List Int} (hk : ks.Nodup) (hs : ∀ x ∈ c.map (·.1), x ∈ ks) : cc b c = (ks.map fun x => many b (cval c x)).sum := by
  rw [sum_rows (many b) (many_zero b) hk G.nodup hs]
  unfold cc
  cases b with
  | false => rfl
  | true =>
    rw [if_pos rfl]
    have h : ∀ c : List (Int × Int), (∀ p ∈ c, 0 < p.2) → (c.length : Int) = (c.map fun p => many true p.2).sum := by
      intro c hp
      induction c with
      | nil => rfl
      | cons p r ih =>
        simp only [List.map_cons, List.sum_cons, List.length_cons]
        rw [← ih fun q hq => hp q (.tail _ hq)]
        have := hp p (.head _)
        simp only [many, if_true]
        omega
    exact h c G.pos
theorem Good.val_pos {c : List (Int × Int)} (G : Good c) {x : Int} (h : x ∈ c.map (·.1)) : 0 < cval c x := by
  obtain ⟨v, e⟩ := cget_some h
  unfold cval
  rw [e]
  have : ∀ c : List (Int × Int), cget c x = some v → (x, v) ∈ c := by
    intro c
    induction c with
    | nil => intro h; cases h
    | cons p r ih =>
      obtain ⟨a, b⟩ := p
      intro h
      rw [cget] at h
      by_cases q : a = x
      · rw [if_pos q] at h; cases h; subst q; exact .head _
      · rw [if_neg q] at h; exact .tail _ (ih h)
  exact G.pos _ (this c e)
theorem Good.nonneg {c : List (Int × Int)} (G : Good c) (x : Int) : 0 ≤ cval c x := by
  by_cases h : x ∈ c.map (·.1)
  · exact Int.le_of_lt (G.val_pos h)
  · rw [cval_none h]; exact Int.le_refl _
theorem Good.mem {c : List (Int × Int)} (G : Good c) {x : Int} : x ∈ c.map (·.1) ↔ 0 < cval c x := by
  constructor
  · exact G.val_pos
  · intro h
    apply Classical.byContradiction
    intro q; rw [cval_none q] at h; exact absurd h (by omega)
theorem cval_map {l : List Int} {f : Int → Int} {x : Int} : cval (l.map fun k => (k, f k)) x = if x ∈ l then f x else 0 := by
  induction l with
  | nil => rfl
  | cons z zs ih =>
    rw [List.map_cons, cval_cons, ih]
    by_cases e : z = x
    · subst e; simp
    · rw [if_neg e]
      simp only [List.mem_cons]
      by_cases h : x ∈ zs
      · rw [if_pos h, if_pos (.inr h)]
      · rw [if_neg h, if_neg (fun q => q.elim (fun z => e z.symm) h)]
theorem map_keys (l : List Int) (f : Int → Int) : (l.map fun k => (k, f k)).map (·.1) = l := by
  induction l with
  | nil => rfl
  | cons z zs ih => simp only [List.map_cons, ih]
theorem cand_val {c1 c2 : List (Int × Int)} (G1 : Good c1) (G2 : Good c2) (x : Int) : cval (cand c1 c2) x = min (cval c1 x) (cval c2 x) := by
  unfold cand
  rw [cval_map]
  have p1 := G1.nonneg x
  have p2 := G2.nonneg x
  by_cases h : x ∈ (c1.map (·.1)).filter (andT c1 c2)
  · rw [if_pos h]; rfl
  · rw [if_neg h]
    rw [List.mem_filter] at h
    by_cases h1 : 0 < cval c1 x
    · by_cases h2 : 0 < cval c2 x
      · exfalso
        refine h ⟨G1.mem.mpr h1, ?_⟩
        unfold andT
        rw [mem_keys.mp (G2.mem.mpr h2)]
        have e1 : (cget c1 x).getD 0 = cval c1 x := rfl
        have e2 : (cget c2 x).getD 0 = cval c2 x := rfl
        rw [e1, e2]
        simp only [Bool.true_and, decide_eq_true_eq]
        omega
      · omega
    · omega
theorem cand_good {c1 c2 : List (Int × Int)} (G1 : Good c1) : Good (cand c1 c2) := by
  refine ⟨cand_nodup G1.nodup, ?_⟩
  intro p hp
  unfold cand at hp
  obtain ⟨k, hk, rfl⟩ := List.mem_map.mp hp
  have := (List.mem_filter.mp hk).2
  unfold andT at this
  simp only [Bool.and_eq_true, decide_eq_true_eq] at this
  exact this.2
theorem or0_val (c1 c2 : List (Int × Int)) (x : Int) : cval (or0 c1 c2) x = if x ∈ c1.map (·.1) then max (cval c1 x) (cval c2 x) else 0 := by
  unfold or0; rw [cval_map]; rfl
theorem or0_keys (c1 c2 : List (Int × Int)) : (or0 c1 c2).map (·.1) = c1.map (·.1) := by unfold or0; exact map_keys _ _
theorem orStep_val (c2 r : List (Int × Int)) (k x : Int) : cget (orStep c2 r k) x = if (cget r x).isSome then cget r x else if k = x then some (cval c2 k) else none := by
  unfold orStep
  by_cases h : (cget r k).isSome
  · rw [if_pos h]
    by_cases hx : (cget r x).isSome
    · rw [if_pos hx]
    · rw [if_neg hx]
      have : k ≠ x := fun e => hx (e ▸ h)
      rw [if_neg this]
      simpa using hx
  · rw [if_neg h, cget_put]
    by_cases e : k = x
    · subst e
      rw [if_pos rfl, if_neg h, if_pos rfl]; rfl
    · rw [if_neg e, if_neg e]
      by_cases hx : (cget r x).isSome
      · rw [if_pos hx]
      · rw [if_neg hx]; simpa using hx
theorem orFold_val (c2 : List (Int × Int)) : ∀ (l : List Int) (r : List (Int × Int)) (x : Int), cget (l.foldl (orStep c2) r) x = if (cget r x).isSome then cget r x else if x ∈ l then some (cval c2 x) else none
  | [], r, x => by
    simp only [List.foldl_nil, List.not_mem_nil, if_false]
    split
    · rfl
    · rename_i h; simpa using h
  | k :: l, r, x => by
    rw [List.foldl_cons, orFold_val c2 l, orStep_val]
    by_cases hx : (cget r x).isSome
    · simp [hx]
    · rw [if_neg hx, if_neg hx]
      by_cases e : k = x
      · subst e; simp
      · rw [if_neg e]
        simp only [List.mem_cons]
        have e' : ¬ x = k := fun q => e q.symm
        simp [e']
theorem or1_val {c1 c2 : List (Int × Int)} (G1 : Good c1) (G2 : Good c2) (x : Int) : cval (or1 c1 c2 c2) x = max (cval c1 x) (cval c2 x) := by
  have p1 := G1.nonneg x
  have p2 := G2.nonneg x
  unfold or1
  show (cget (List.foldl _ _ _) x).getD 0 = _
  rw [orFold_val]
  by_cases h : x ∈ c1.map (·.1)
  · rw [if_pos (mem_keys.mp (by rw [or0_keys]; exact h))]
    have := or0_val c1 c2 x
    rw [if_pos h] at this
    exact this
  · have hn : ¬ (cget (or0 c1 c2) x).isSome = true := fun q => h (by rw [← or0_keys c1 c2]; exact mem_keys.mpr q)
    rw [if_neg hn, cval_none h]
    by_cases h2 : x ∈ c2.map (·.1)
    · rw [if_pos h2]; simp only [Option.getD_some]; omega
    · rw [if_neg h2, cval_none h2]; rfl
theorem cor_val {c1 c2 : List (Int × Int)} (G1 : Good c1) (G2 : Good c2) (x : Int) : cval (cor c1 c2) x = max (cval c1 x) (cval c2 x) := by
  have p1 := G1.nonneg x
  have hv := or1_val G1 G2 x
  unfold cor
  rw [cval_map]
  have e1 : (cget (or1 c1 c2 c2) x).getD 0 = cval (or1 c1 c2 c2) x := rfl
  by_cases h : x ∈ ((or1 c1 c2 c2).map (·.1)).filter fun k => decide (0 < (cget (or1 c1 c2 c2) k).getD 0)
  · rw [if_pos h, e1, hv]
  · rw [if_neg h]
    rw [List.mem_filter] at h
    by_cases h0 : 0 < cval (or1 c1 c2 c2) x
    · exfalso
      refine h ⟨?_, by simpa [e1] using h0⟩
      apply Classical.byContradiction
      intro q; rw [cval_none q] at h0; exact absurd h0 (by omega)
    · omega
theorem cor_good {c1 c2 : List (Int × Int)} (G1 : Good c1) : Good (cor c1 c2) := by
  refine ⟨?_, ?_⟩
  · unfold cor; rw [map_keys]; exact (or1_nodup G1.nodup).filter _
  · intro p hp
    unfold cor at hp
    obtain ⟨k, hk, rfl⟩ := List.mem_map.mp hp
    have := (List.mem_filter.mp hk).2
    simpa using this
theorem cnt_val (ns : List Int) (x : Int) : cval (cnt ns) x = (ns.count x : Int) := by
  have h : ∀ (l : List Int) (c : List (Int × Int)), cval (l.foldl (fun c k => cput c k ((cget c k).getD 0 + 1)) c) x = cval c x + (l.count x : Int) := by
    intro l
    induction l with
    | nil => intro c; simp
    | cons a l ih =>
      intro c
      rw [List.foldl_cons, ih, cval_put, List.count_cons]
      by_cases e : a = x
      · subst e; simp [cval]; omega
      · simp [e]
  simpa [cnt, cval_nil] using h ns []
theorem cnt_keys (ns : List Int) (x : Int) : x ∈ (cnt ns).map (·.1) ↔ x ∈ ns := by
  have h : ∀ (l : List Int) (c : List (Int × Int)), x ∈ (l.foldl (fun c k => cput c k ((cget c k).getD 0 + 1)) c).map (·.1) ↔ x ∈ c.map (·.1) ∨ x ∈ l := by
    intro l
    induction l with
    | nil => intro c; simp
    | cons a l ih =>
      intro c
      rw [List.foldl_cons, ih, mem_keys, cget_put, List.mem_cons, mem_keys (c := c)]
      by_cases e : a = x
      · subst e; simp
      · have e' : ¬ x = a := fun q => e q.symm
        simp [e, e']
  simpa [cnt] using h ns []
theorem cnt_good (ns : List Int) : Good (cnt ns) := by
  refine ⟨cnt_nodup ns, ?_⟩
  have hp : ∀ (c : List (Int × Int)) (k v : Int), 0 < v → (∀ p ∈ c, 0 < p.2) → ∀ p ∈ cput c k v, 0 < p.2 := by
    intro c k v hv
    induction c with
    | nil => intro _ p hp; simp [cput] at hp; rw [hp]; exact hv
    | cons q r ih =>
      obtain ⟨a, b⟩ := q
      intro h p hp
      rw [cput] at hp
      by_cases e : a = k
      · rw [if_pos e] at hp
        rcases List.mem_cons.mp hp with rfl | hp
        · exact hv
        · exact h p (.tail _ hp)
      · rw [if_neg e] at hp
        rcases List.mem_cons.mp hp with rfl | hp
        · exact h _ (.head _)
        · exact ih (fun p hp => h p (.tail _ hp)) p hp
  have h : ∀ (l : List Int) (c : List (Int × Int)), (∀ p ∈ c, 0 < p.2) → ∀ p ∈ l.foldl (fun c k => cput c k ((cget c k).getD 0 + 1)) c, 0 < p.2 := by
    intro l
    induction l with
    | nil => intro c h; exact h
    | cons a l ih =>
      intro c h
      rw [List.foldl_cons]
      refine ih _ (hp c a _ ?_ h)
      have : 0 ≤ (cget c a).getD 0 := by
        cases e : cget c a with
        | none => exact Int.le_refl _
        | some v =>
          have : ∀ c : List (Int × Int), (∀ p ∈ c, 0 < p.2) → cget c a = some v → 0 < v := by
            intro c
            induction c with
            | nil => intro _ h; cases h
            | cons p r ih =>
              obtain ⟨x, y⟩ := p
              intro hh h
              rw [cget] at h
              by_cases q : x = a
              · rw [if_pos q] at h; cases h; exact hh _ (.head _)
              · rw [if_neg q] at h; exact ih (fun p hp => hh p (.tail _ hp)) h
          exact Int.le_of_lt (this c h e)
      omega
  exact h ns [] (by simp)
/-- how often a row has a letter -/
def mny (b : Bool) (ns : List Int) (x : Int) : Int := if b then min (ns.count x : Int) 1 else (ns.count x : Int)
theorem many_cnt (b : Bool) (ns : List Int) (x : Int) : many b (cval (cnt ns) x) = mny b ns x := by rw [cnt_val]; rfl
theorem many_min (b : Bool) (v w : Int) : many b (min v w) = min (many b v) (many b w) := by cases b <;> simp only [many, if_true, Bool.false_eq_true, if_false] <;> omega
theorem many_max (b : Bool) (v w : Int) : many b (max v w) = max (many b v) (many b w) := by cases b <;> simp only [many, if_true, Bool.false_eq_true, if_false] <;> omega
theorem cand_sub {c1 c2 : List (Int × Int)} {x : Int} (h : x ∈ (cand c1 c2).map (·.1)) : x ∈ c1.map (·.1) := by
  unfold cand at h; rw [map_keys] at h; exact (List.mem_filter.mp h).1
theorem cor_sub {c1 c2 : List (Int × Int)} (G1 : Good c1) (G2 : Good c2) {x : Int} (h : x ∈ (cor c1 c2).map (·.1)) : x ∈ c1.map (·.1) ∨ x ∈ c2.map (·.1) := by
  have := (cor_good (c2 := c2) G1).mem.mp h
  rw [cor_val G1 G2] at this
  rw [G1.mem, G2.mem]
  omega
section
variable {b : Bool} {ks n1 n2 n3 : List Int}
theorem law_size (hk : ks.Nodup) (h1 : ∀ x ∈ n1, x ∈ ks) : cc b (cnt n1) = (ks.map (mny b n1)).sum := by
  rw [(cnt_good n1).sum hk fun x hx => h1 x ((cnt_keys n1 x).mp hx)]
  congr 1
  exact List.map_congr_left fun x _ => many_cnt b n1 x
theorem law_and2 (hk : ks.Nodup) (h1 : ∀ x ∈ n1, x ∈ ks) : cc b (cand (cnt n1) (cnt n2)) = (ks.map fun x => min (mny b n1 x) (mny b n2 x)).sum := by
  rw [(cand_good (cnt_good n1)).sum hk fun x hx => h1 x ((cnt_keys n1 x).mp (cand_sub hx))]
  congr 1
  refine List.map_congr_left fun x _ => ?_
  rw [cand_val (cnt_good n1) (cnt_good n2), many_min, many_cnt, many_cnt]
theorem law_and3 (hk : ks.Nodup) (h1 : ∀ x ∈ n1, x ∈ ks) : cc b (cand (cand (cnt n1) (cnt n2)) (cnt n3)) = (ks.map fun x => min (min (mny b n1 x) (mny b n2 x)) (mny b n3 x)).sum := by
  rw [(cand_good (cand_good (cnt_good n1))).sum hk fun x hx => h1 x ((cnt_keys n1 x).mp (cand_sub (cand_sub hx)))]
  congr 1
  refine List.map_congr_left fun x _ => ?_
  rw [cand_val (cand_good (cnt_good n1)) (cnt_good n3), cand_val (cnt_good n1) (cnt_good n2), many_min, many_min, many_cnt, many_cnt, many_cnt]
theorem law_or2 (hk : ks.Nodup) (h1 : ∀ x ∈ n1, x ∈ ks) (h2 : ∀ x ∈ n2, x ∈ ks) : cc b (cor (cnt n1) (cnt n2)) = (ks.map fun x => max (mny b n1 x) (mny b n2 x)).sum := by
  rw [(cor_good (cnt_good n1)).sum hk fun x hx => (cor_sub (cnt_good n1) (cnt_good n2) hx).elim (fun h => h1 x ((cnt_keys n1 x).mp h)) fun h => h2 x ((cnt_keys n2 x).mp h)]
  congr 1
  refine List.map_congr_left fun x _ => ?_
  rw [cor_val (cnt_good n1) (cnt_good n2), many_max, many_cnt, many_cnt]
theorem law_or3 (hk : ks.Nodup) (h1 : ∀ x ∈ n1, x ∈ ks) (h2 : ∀ x ∈ n2, x ∈ ks) (h3 : ∀ x ∈ n3, x ∈ ks) : cc b (cor (cor (cnt n1) (cnt n2)) (cnt n3)) = (ks.map fun x => max (max (mny b n1 x) (mny b n2 x)) (mny b n3 x)).sum := by
  rw [(cor_good (cor_good (cnt_good n1))).sum hk fun x hx => (cor_sub (cor_good (cnt_good n1)) (cnt_good n3) hx).elim
    (fun h => (cor_sub (cnt_good n1) (cnt_good n2) h).elim (fun h => h1 x ((cnt_keys n1 x).mp h)) fun h => h2 x ((cnt_keys n2 x).mp h)) fun h => h3 x ((cnt_keys n3 x).mp h)]
  congr 1
  refine List.map_congr_left fun x _ => ?_
  rw [cor_val (cor_good (cnt_good n1)) (cnt_good n3), cor_val (cnt_good n1) (cnt_good n2), many_max, many_max, many_cnt, many_cnt, many_cnt]
end

end

open PySem PySem.W PySem.Calls PyProof.Rows
local macro_rules | `(tactic| walk_at "m_enterV") => `(tactic| (refine' enterV ?k1 ?k2 ?k6 ?k7 ?k8 ?k9 ?kB ?kD ?kV ?_ ?c2 ?c3 ?c4; (case k1 => assumption); (case k2 => assumption); (case k6 => k_is); (case k7 => k_is); (case k8 => k_room); (case k9 => exact rfl); (case kB => exact fun _ => rfl); (case kD => exact fun _ => rfl); (case kV => exact Nat.le_of_ble_eq_true rfl); (case c2 => exact rfl); (case c3 => exact rfl); (case c4 => exact rfl)))
local macro_rules | `(tactic| walk_at "m_enterVC") => `(tactic| (refine' enterVC ?k1 ?k2 ?k6 ?k7 ?k8 ?k9 ?kB ?kD ?kV ?_ ?c2 ?c3 ?c4; (case k1 => assumption); (case k2 => assumption); (case k6 => k_is); (case k7 => k_is); (case k8 => k_room); (case k9 => exact rfl); (case kB => exact fun _ => rfl); (case kD => decide +kernel); (case kV => exact Nat.le_of_ble_eq_true rfl); (case c2 => exact rfl); (case c3 => exact rfl); (case c4 => exact rfl)))

section
open PySem PySem.W PySem.Calls PyProof.Rows
set_option maxHeartbeats 4000000
section
variable {prog : Program} {w : World} {A : Around} {E : Value → Shared → Prop} {s : Shared} {env : Env} {h₀ : Heap} {x : Str} {body : List Stmt} {Q : Flow → Shared → Prop}
/-- how a turn ends -/
def TurnR (h₀ : Heap) (L : Addr) (s : Shared) (own : List (Addr × Obj)) (I : Addr) (Jn : (Str → Option Value) → List (Addr × Obj) → Prop) (f : Flow) (s₂ : Shared) : Prop :=
  f = .next ∧ ∃ h' tk m' nx, s₂ = { s with heap := h', toks := tk } ∧ Fr h₀ L h' m' ∧ News h₀ L h' (nx ++ own) ∧ (∀ p ∈ nx, p.1 ≠ I) ∧ Jn m' nx
/-- a loop over a tuple of the ledger; the rest of the ledger may change as it will -/
theorem iter_raw {T : Addr} {vs : List Value} {m₀ : Str → Option Value} {news : List (Addr × Obj)} (J : Nat → (Str → Option Value) → List (Addr × Obj) → Prop) (hA : A.handled = none)
    (F : Fr h₀ env.locals s.heap m₀) (N : News h₀ env.locals s.heap ((T, tupO vs) :: news)) (hj : J 0 m₀ news)
    (turn : ∀ I i v m₁ news₁ h tk own, vs[i]? = some v → J i m₁ news₁ → (∃ o, h.get? I = some o) → (∀ p ∈ news₁, p.1 ≠ I) → Fr h₀ env.locals h (fun y => if y = x then some v else m₁ y) → News h₀ env.locals h (news₁ ++ own) →
      wpAny (model prog w) A (execs body env) (TurnR h₀ env.locals s own I (J (i + 1))) E { s with heap := h, toks := tk })
    (done : ∀ m₁ news₁ h tk, J vs.length m₁ news₁ → Fr h₀ env.locals h m₁ → News h₀ env.locals h news₁ → Q .next { s with heap := h, toks := tk }) :
    wpAny (model prog w) A (pyIter (.ref T)) (fun it s₂ => LoopAtV prog w A h₀ env x body Q E it s₂) E s := by
  have hT := N (T, tupO vs) (.head _)
  have ht : s.heap.IsTuple T vs.toArray := ⟨tupO vs, hT.1, rfl, 0, rfl⟩
  have hlt : T < s.heap.objs.size := Heap.lt_size hT.1
  have hne : T ≠ s.heap.objs.size := Nat.ne_of_lt hlt
  refine wpAny_pyIter_tuple ht ?_
  refine ⟨_, _, _, vs.toArray.size, _, _, m₀, news, J, rfl, Walks.tuple hA s.heap.objs.size T hne vs.toArray, ?_, ?_, ?_, ⟨⟨_, Heap.get?_push_size _ rfl, rfl, rfl⟩, tupO vs, Heap.get?_push_of_some _ hT.1, rfl, 0, rfl⟩, F.push _,
    (fun p hp => ⟨Heap.get?_push_of_some _ (N p (.tail _ hp)).1, (N p (.tail _ hp)).2⟩), hj, ?_, ?_⟩
  · intro hm
    rcases List.mem_cons.mp hm with e | hm
    · exact absurd F.ns.lt (e ▸ Nat.lt_irrefl _)
    · exact hT.2.1 (List.mem_singleton.mp hm).symm
  · intro b hb
    rw [List.mem_singleton.mp hb]
    exact next_is_new F
  · intro p hp hI
    exact absurd (Heap.lt_size (N p (.tail _ hp)).1) ((List.mem_singleton.mp hI) ▸ Nat.lt_irrefl _)
  · rintro i v m₁ news₁ s₁ own ⟨hh', tk', rfl⟩ hin hP hJ hoff _ hown hmem hst F₁ N₁
    obtain ⟨⟨oI, hoI, _⟩, _⟩ := hst
    refine wpAny_mono (turn s.heap.objs.size i v m₁ news₁ hh' tk' own (by simpa using hP) hJ ⟨oI, hoI⟩ (fun p hp e => hoff p hp (by rw [e]; exact List.mem_singleton.mpr rfl)) F₁
      (fun p hp => N₁ p ((List.mem_append.mp hp).elim (fun h => List.mem_append.mpr (.inr h)) fun h => List.mem_append.mpr (.inl h)))) ?_ fun _ _ e => e
    rintro f s₂ ⟨rfl, h', tk, m', nx, rfl, F', N', hnx, hJ'⟩
    exact .next ⟨rfl, h', tk, m', nx, rfl, F', fun p hp => N' p ((List.mem_append.mp hp).elim (fun h => List.mem_append.mpr (.inr h)) fun h => List.mem_append.mpr (.inl h)), fun p hp hq => hnx p hp (List.mem_singleton.mp hq), hJ'⟩
  · rintro h' tk m' news' F' N' _ hJ
    exact done m' news' h' tk (by simpa using hJ) F' N'
/-- the ledger is the same in another order -/
theorem news_sub {L : Addr} {h : Heap} {a b : List (Addr × Obj)} (N : News h₀ L h a) (hs : ∀ p ∈ b, p ∈ a) : News h₀ L h b := fun p hp => N p (hs p hp)
theorem line_from {L : Addr} {m : Str → Option Value} {news : List (Addr × Obj)} {value slice : PySem.Expr} {t : Addr} {vs zs : List Value} {a : Nat} {u : Tok} {Q : Value → Shared → Prop}
    (F : Fr h₀ L s.heap m) (N : News h₀ L s.heap news) (ht : (t, tupO vs) ∈ news) (e : vs.drop a = zs) (h1 : 1 ≤ a) (ha : a ≤ vs.length) (hl : vs.length ≤ 100)
    (h : ∀ T h', Fr h₀ L h' m → News h₀ L h' ((T, tupO zs) :: news) → (∀ p ∈ news, p.1 < T) → Q (.ref T) { s with heap := h' })
    (hs : subscripted slice false (.ref t) (.ref s.heap.objs.size) = operate [.ref s.heap.objs.size, .ref t] (getItem (.ref t) (.ref s.heap.objs.size)) := by with_unfolding_all rfl)
    (hg : ∀ r, letTemporaryGo value (.ref t) r = pure () := by intro _; with_unfolding_all rfl) :
    wpAny (model prog w) A (subscriptTail value slice (.ref t) (.ref s.heap.objs.size)) Q E { s with heap := s.heap.push { cls := .type "slice", data := .fields #[.int a u, .none, .none] } } := by
  refine slice_tuple_from F N (News.isTup N ht) h1 (by simpa using ha) (fun h' F' N' => ?_) hs hg (by rw [sizeLine_eq, List.size_toArray]; omega)
  refine h _ h' F' ?_ fun p hp => Nat.lt_succ_of_lt (Heap.lt_size (N p hp).1)
  subst e
  simpa using N'
end

end

open PySem PySem.W PySem.Calls PyProof.Rows
local macro_rules | `(tactic| walk_at "subscriptTail") => `(tactic| (k_here; (with_reducible show wpAny _ _ (subscriptTail _ (PySem.Expr.Slice (some _) none none _) (Value.ref _) (Value.ref _)) _ _ _); refine' line_from ?F ?N ?t ?e ?a ?b ?z ?_ ?s ?g; (case F => k_asm); (case N => k_asm); (case t => k_mem); (case e => exact rfl); (case a => decide); (case b => exact Nat.le_of_ble_eq_true rfl); (case z => exact Nat.le_of_ble_eq_true rfl); (case s => with_unfolding_all rfl); (case g => (intro _; with_unfolding_all rfl)); intro T' h' F' N' l1))
local macro_rules | `(tactic| walk_at "exec For Name Subscript cons nil") => `(tactic| (k_here; (with_reducible rename Fr _ _ _ _ => lF'); (with_unfolding_all refine' For_invVF lF' ?k1 ?k2 ?_; (case k1 => exact rfl); (case k2 => exact rfl); k_whole)))

section
open PySem PySem.W PySem.Calls PyProof.Rows
set_option maxHeartbeats 4000000
/-- how a call ends, for its caller -/
def RQ (Q E : Value → Shared → Prop) (r : Result) (s' : Shared) : Prop := match r with
  | .ok (.ret v) => Q v s'
  | .ok _ => False
  | .error e => E e s'
/-- the code ends, and gives a fresh Counter of c -/
def CodeC (M : Model) (A : Around) (s : Shared) (t : Code) (c : List (Int × Int)) : Prop :=
  ∀ (Q E : Value → Shared → Prop), (∀ x h' tk, (∀ b o, s.heap.get? b = some o → h'.get? b = some o) → CNew s.heap h' x c → Q (.ref x) { s with heap := h', toks := tk }) → codeAny M A t (RQ Q E) s
/-- the code ends, and gives a fresh list of these values -/
def CodeL (M : Model) (A : Around) (s : Shared) (t : Code) (vs : List Value) : Prop :=
  ∀ (Q E : Value → Shared → Prop), (∀ l h' tk, (∀ b o, s.heap.get? b = some o → h'.get? b = some o) → s.heap.get? l = none → h'.IsList l vs.toArray → Q (.ref l) { s with heap := h', toks := tk }) → codeAny M A t (RQ Q E) s
/-- the code ends, and gives a value of the shape v -/
def CodeV (M : Model) (A : Around) (s : Shared) (t : Code) (v : Tok → Value) : Prop :=
  ∀ (Q E : Value → Shared → Prop), (∀ u h' tk, (∀ b o, s.heap.get? b = some o → h'.get? b = some o) → Q (v u) { s with heap := h', toks := tk }) → codeAny M A t (RQ Q E) s
section
variable {prog : Program} {w : World} {A : Around} {E : Value → Shared → Prop} {s : Shared} {env : Env} {K : Frag} {h₀ : Heap} {L q g x : Addr} {m : Str → Option Value} {news : List (Addr × Obj)} {o e : Expr} {name : Str} {apos pos p : Pos} {Q : Value → Shared → Prop} {self : Value} {args first : List Value}
/-- a method called with a star -/
theorem starCall (h : wpAny (model prog w) A (eval o env) (fun ov s₁ => wpAny (model prog w) A (getAttr ov name true) (fun f s₂ => wpAny (model prog w) A (callWith pos f [] (backTo pos (starEach [.Starred e p] env)) []) Q E s₂) E s₁) E s)
    (he : eval (.Call (.Attribute o name apos) [.Starred e p] [] pos) env = (do
      let ov ← eval o env
      standAt apos.atName
      let (f, first) ← holding [ov] (do pure (← getAttr ov name true, []))
      let callPos ← pure pos
      callWith callPos f first (backTo pos (starEach [.Starred e p] env)) []) := by rfl) :
    wpAny (model prog w) A (eval (.Call (.Attribute o name apos) [.Starred e p] [] pos) env) Q E s := by
  rw [he]
  refine wpAny_bind (wpAny_mono h (fun ov s₁ h₁ => wpAny_bind (wpAny_standAt (wpAny_bind (wpAny_holding (wpAny_bind (wpAny_mono h₁ (fun f s₂ h₂ => ?_) fun _ _ x => x)))))) fun _ _ x => x)
  exact wpAny_pure (wpAny_bind (wpAny_pure h₂))
theorem callWith_SM (_X : K.In h₀) (_N : News h₀ L s.heap news) (_q : (q, methodObj (.ref g) self) ∈ news) (hf : fnIn K g = true)
    (h : wpAny (model prog w) A (eval e env) (fun v s₁ => StarOf (model prog w) A E v (fun vs s₂ => MethP K q g self s₂.heap ∧ wpAny (model prog w) A (call (.ref q) (first ++ vs)) Q E s₂) s₁) E s)
    (he : starEach [.Starred e p] env = [(true, eval e env)] := by rfl) :
    wpAny (model prog w) A (callWith pos (.ref q) first (backTo pos (starEach [.Starred e p] env)) []) Q E s := by
  rw [he]
  exact ks_call rfl (keeps_M hf) (ks_lone h)
theorem call_bound {f : Addr} (N : News h₀ L s.heap news) (hq : (q, methodObj (.ref f) self) ∈ news) (h : codeAny (model prog w) A (.call (.ref f) ⟨self :: args, []⟩) (RQ Q E) s) : wpAny (model prog w) A (call (.ref q) args) Q E s :=
  PySem.W.call_meth N hq h
theorem CodeC.gives {f : Value} {c : List (Int × Int)} (G : CodeC (model prog w) A s (.call f ⟨args, []⟩) c) : GivesC (model prog w) A s (call f args) c := fun Q E hQ => wpAny_call (G Q E hQ)
end

end

section
open PySem PySem.W PySem.Calls PyProof.Rows
set_option maxHeartbeats 4000000
local macro_rules | `(tactic| walk_at "getMethod ref") => `(tactic| (k_here; (with_reducible show wpAny _ _ (getMethod (Value.ref _) (PySem.Str.ofString "copy") _) _ _ _); refine Halt.out ?_))
local macro_rules | `(tactic| walk_at "call ref nil") => `(tactic| (k_here; (with_reducible show wpAny _ _ (call (Value.ref 44) _ _) _ _ _); refine Halt.out ?_))
local macro_rules | `(tactic| walk_at "pyIter ref") => `(tactic| (k_here; (with_reducible show wpAny _ _ (pyIter (Value.ref _)) _ _ _); refine Halt.out ?_))
local macro_rules | `(tactic| walk_at "inplaceOp BitAnd ref ref") => `(tactic| (k_here; (with_reducible show wpAny _ _ (inplaceOp _ (Value.ref _) (Value.ref _)) _ _ _); refine Halt.out ?_))
local macro_rules | `(tactic| walk_at "inplaceOp BitOr ref ref") => `(tactic| (k_here; (with_reducible show wpAny _ _ (inplaceOp _ (Value.ref _) (Value.ref _)) _ _ _); refine Halt.out ?_))
theorem cor_len (c1 c2 : List (Int × Int)) : (cor c1 c2).length ≤ c1.length + c2.length := Nat.le_trans (sieve_small (Nat.le_refl _)) (or1_len c1 c2 c2)
theorem kf44 (w : World) : typeIn (KF w) (.ref 44) = some (.type "function") := by kernel_rfl
theorem gives_inter2 {prog : Program} {w : World} {A : Around} {p : Program} {loose : List Str} {mg mb : Str → Option Value} {s : Shared} {x d1 d2 : Addr} {c1 c2 : List (Int × Int)}
    (X : (hd.heap_39 w.params).In s.heap) (T : TopRead p loose mg mb s.heap) (S : SysIn s.heap) (hA : A.handled = none) (hd : A.depth + 24 < recursionLimit) (hu : A.units + 100 < cLine)
    (C1 : CAt s.heap d1 c1) (C2 : CAt s.heap d2 c2)  : CodeC (model prog w) A s (.call (.ref 177) ⟨[.ref x, .ref d1, .ref d2], []⟩) (cand c1 c2) := by
  intro Q E hQ

  walk_at "m_enterV"
  intro D L' h₁ tk F N hDL
  replace N : News s.heap L' h₁ [(D, tupO [.ref d1, .ref d2])] := N
  k_steps
  all_goals (try (with_reducible show Halt (wpAny _ _ _ _ _ _); refine Halt.mk ?_))
  obtain ⟨dx1, es1, n1, D1, m1⟩ := C1.dat
  refine ctr_method (X.keeps F.keep) (F.keep _ _ D1.at_) rfl rfl (F.keep _ _ m1) (kc_copy w) (looks_typeIn (X.keeps F.keep) (kf44 w)) (by decide) ?_
  k_steps
  all_goals (try (with_reducible show Halt (wpAny _ _ _ _ _ _); refine Halt.mk ?_))
  refine use_gives (gives_copy (X.keeps F.keep) (T.keeps F.keep) (by walk_at "m_hand") (by k_room) (by walk_at "m_units") (C1.keep F.keep)) ?_
  intro y h' tk k Cy
  obtain ⟨dxy, esy, ny, y1, y2, y3, y4, y5⟩ := Cy.ex
  have ysys := Cy.sys
  have F2 := fr_grow F k
  have N2 := news_add F (news_add F (news_grow N k) y2 y4) y1 y3
  clear F N
  k_steps
  all_goals (try (with_reducible show Halt (wpAny _ _ _ _ _ _); refine Halt.mk ?_))
  (with_reducible rename Fr _ _ _ _ => lF)
  (with_reducible rename News _ _ _ _ => lN)
  have hloop : ∀ (i : Nat) (d : Value), ([.ref d2] : List Value)[i]? = some d → ∃ (e : Addr) (c : List (Int × Int)), d = Value.ref e ∧ CAt s.heap e c ∧ ([c2] : List (List (Int × Int)))[i]? = some c  := by
    intro i d hi
    rcases i with _ | _ | i
    · cases hi; exact ⟨d2, c2, rfl, C2, rfl⟩
    · cases hi
    · cases hi
  refine' iter_raw (vs := [.ref d2]) (news := [(y, ctrO dxy esy.toArray ny), (dxy, dictOf [] 0)]) (fun i m nx => ∃ (y dx : Addr) (es : List DictEntry) (n : Nat) (g : Str → Option Value), m = (fun z => if z = Str.ofString "intersection" then some (Value.ref y) else g z) ∧ nx = [(y, ctrO dx es.toArray n), (dx, dictOf [] 0)] ∧ Ents es (([c2].take i).foldl cand c1) ∧ (y == sysModules) = false ∧ ((([c2].take i).foldl cand c1).map (·.1)).Nodup ∧ (([c2].take i).foldl cand c1).length ≤ 1000) ?jA ?jF ?jN ?jj ?zturn ?zdone
  case jA => walk_at "m_hand"
  case jF => exact lF
  case jN => exact news_sub lN (by intro q hq; simp only [List.mem_cons, List.not_mem_nil, or_false] at hq ⊢; rcases hq with h | h | h <;> simp [h])
  case jj => exact ⟨y, dxy, esy, ny, _, rfl, rfl, y5, ysys, C1.nodup, C1.small⟩
  case zturn =>
    rintro I i v m₁ news₁ h tk own hv ⟨y, dx, es, n, g, rfl, rfl, hes, hsys, hnd, hsm⟩ ⟨oI, hI⟩ hoff F₁ N₁
    replace F₁ : Fr s.heap L' h _ := F₁
    replace N₁ : News s.heap L' h _ := N₁
    obtain ⟨e, c, rfl, Ce, hc⟩ := hloop i v hv
    have hsm1 : (([c2].take i).foldl cand c1).length ≤ 1000 := hsm
    have Cy' : CAt h y _ := ⟨⟨dx, es, n, N₁.get (.head _), N₁.get (.tail _ (.head _)), hes⟩, hsys, hnd, hsm1⟩
    have htake : ([c2].take (i + 1)).foldl cand c1 = cand (([c2].take i).foldl cand c1) c := by rw [List.take_add_one, hc]; simp
    k_steps
    all_goals (try (with_reducible show Halt (wpAny _ _ _ _ _ _); refine Halt.mk ?_))
    refine use_gives (c := cand (([c2].take i).foldl cand c1) c) ?g ?_
    case g => exact op_and (X.keeps F₁.keep) Cy' (Ce.keep F₁.keep) (gives_and (X.keeps F₁.keep) (T.keeps F₁.keep) (S.keep F₁.keep) (by walk_at "m_hand") (by k_room) (by walk_at "m_units") Cy' (Ce.keep F₁.keep))
    intro x' h' tk k Cn
    obtain ⟨dxn, esn, nn, z1, z2, z3, z4, z5⟩ := Cn.ex
    have F₂ := fr_grow F₁ k
    have N₂ : News s.heap L' h' ([(x', ctrO dxn esn.toArray nn), (dxn, dictOf [] 0)] ++ own) := news_add F₁ (news_add F₁ (news_sub (news_grow N₁ k) (fun p hp => List.mem_append_right _ hp)) z2 z4) z1 z3
    have hne : ∀ q ∈ [(x', ctrO dxn esn.toArray nn), (dxn, dictOf [] 0)], q.1 ≠ I := by
      intro q hq e
      simp only [List.mem_cons, List.not_mem_nil, or_false] at hq
      rcases hq with rfl | rfl
      · dsimp only at e; rw [← e, z1] at hI; cases hI
      · dsimp only at e; rw [← e, z2] at hI; cases hI
    clear F₁ N₁
    k_steps
    all_goals (try (with_reducible show Halt (wpAny _ _ _ _ _ _); refine Halt.mk ?_))
    (with_reducible rename Fr _ _ _ _ => Fz)
    (with_reducible rename News _ _ _ _ => Nz)
    refine ⟨rfl, _, _, _, _, rfl, Fz, Nz, hne, x', dxn, esn, nn, _, rfl, rfl, ?_, Cn.sys, ?_, ?_⟩
    · rw [htake]; exact z5
    · rw [htake]; exact Cn.nodup
    · rw [htake]; exact Cn.small
  case zdone =>
    rintro m₁ news₁ h tk ⟨y, dx, es, n, g, rfl, rfl, hes, hsys, hnd, hsm⟩ F₁ N₁
    replace F₁ : Fr s.heap L' h _ := F₁
    replace N₁ : News s.heap L' h _ := N₁
    dsimp only
    k_steps
    all_goals (try (with_reducible show Halt (wpAny _ _ _ _ _ _); refine Halt.mk ?_))
    exact hQ y h tk F₁.keep ⟨⟨dx, es, n, (N₁ _ (.head _)).2.2, (N₁ _ (.tail _ (.head _))).2.2, N₁.get (.head _), N₁.get (.tail _ (.head _)), hes⟩, hsys, hnd, hsm⟩
theorem gives_inter3 {prog : Program} {w : World} {A : Around} {p : Program} {loose : List Str} {mg mb : Str → Option Value} {s : Shared} {x d1 d2 d3 : Addr} {c1 c2 c3 : List (Int × Int)}
    (X : (hd.heap_39 w.params).In s.heap) (T : TopRead p loose mg mb s.heap) (S : SysIn s.heap) (hA : A.handled = none) (hd : A.depth + 24 < recursionLimit) (hu : A.units + 100 < cLine)
    (C1 : CAt s.heap d1 c1) (C2 : CAt s.heap d2 c2) (C3 : CAt s.heap d3 c3)  : CodeC (model prog w) A s (.call (.ref 177) ⟨[.ref x, .ref d1, .ref d2, .ref d3], []⟩) (cand (cand c1 c2) c3) := by
  intro Q E hQ

  walk_at "m_enterV"
  intro D L' h₁ tk F N hDL
  replace N : News s.heap L' h₁ [(D, tupO [.ref d1, .ref d2, .ref d3])] := N
  k_steps
  all_goals (try (with_reducible show Halt (wpAny _ _ _ _ _ _); refine Halt.mk ?_))
  obtain ⟨dx1, es1, n1, D1, m1⟩ := C1.dat
  refine ctr_method (X.keeps F.keep) (F.keep _ _ D1.at_) rfl rfl (F.keep _ _ m1) (kc_copy w) (looks_typeIn (X.keeps F.keep) (kf44 w)) (by decide) ?_
  k_steps
  all_goals (try (with_reducible show Halt (wpAny _ _ _ _ _ _); refine Halt.mk ?_))
  refine use_gives (gives_copy (X.keeps F.keep) (T.keeps F.keep) (by walk_at "m_hand") (by k_room) (by walk_at "m_units") (C1.keep F.keep)) ?_
  intro y h' tk k Cy
  obtain ⟨dxy, esy, ny, y1, y2, y3, y4, y5⟩ := Cy.ex
  have ysys := Cy.sys
  have F2 := fr_grow F k
  have N2 := news_add F (news_add F (news_grow N k) y2 y4) y1 y3
  clear F N
  k_steps
  all_goals (try (with_reducible show Halt (wpAny _ _ _ _ _ _); refine Halt.mk ?_))
  (with_reducible rename Fr _ _ _ _ => lF)
  (with_reducible rename News _ _ _ _ => lN)
  have hloop : ∀ (i : Nat) (d : Value), ([.ref d2, .ref d3] : List Value)[i]? = some d → ∃ (e : Addr) (c : List (Int × Int)), d = Value.ref e ∧ CAt s.heap e c ∧ ([c2, c3] : List (List (Int × Int)))[i]? = some c  := by
    intro i d hi
    rcases i with _ | _ | i
    · cases hi; exact ⟨d2, c2, rfl, C2, rfl⟩
    · cases hi; exact ⟨d3, c3, rfl, C3, rfl⟩
    · cases hi
  refine' iter_raw (vs := [.ref d2, .ref d3]) (news := [(y, ctrO dxy esy.toArray ny), (dxy, dictOf [] 0)]) (fun i m nx => ∃ (y dx : Addr) (es : List DictEntry) (n : Nat) (g : Str → Option Value), m = (fun z => if z = Str.ofString "intersection" then some (Value.ref y) else g z) ∧ nx = [(y, ctrO dx es.toArray n), (dx, dictOf [] 0)] ∧ Ents es (([c2, c3].take i).foldl cand c1) ∧ (y == sysModules) = false ∧ ((([c2, c3].take i).foldl cand c1).map (·.1)).Nodup ∧ (([c2, c3].take i).foldl cand c1).length ≤ 1000) ?jA ?jF ?jN ?jj ?zturn ?zdone
  case jA => walk_at "m_hand"
  case jF => exact lF
  case jN => exact news_sub lN (by intro q hq; simp only [List.mem_cons, List.not_mem_nil, or_false] at hq ⊢; rcases hq with h | h | h <;> simp [h])
  case jj => exact ⟨y, dxy, esy, ny, _, rfl, rfl, y5, ysys, C1.nodup, C1.small⟩
  case zturn =>
    rintro I i v m₁ news₁ h tk own hv ⟨y, dx, es, n, g, rfl, rfl, hes, hsys, hnd, hsm⟩ ⟨oI, hI⟩ hoff F₁ N₁
    replace F₁ : Fr s.heap L' h _ := F₁
    replace N₁ : News s.heap L' h _ := N₁
    obtain ⟨e, c, rfl, Ce, hc⟩ := hloop i v hv
    have hsm1 : (([c2, c3].take i).foldl cand c1).length ≤ 1000 := hsm
    have Cy' : CAt h y _ := ⟨⟨dx, es, n, N₁.get (.head _), N₁.get (.tail _ (.head _)), hes⟩, hsys, hnd, hsm1⟩
    have htake : ([c2, c3].take (i + 1)).foldl cand c1 = cand (([c2, c3].take i).foldl cand c1) c := by rw [List.take_add_one, hc]; simp
    k_steps
    all_goals (try (with_reducible show Halt (wpAny _ _ _ _ _ _); refine Halt.mk ?_))
    refine use_gives (c := cand (([c2, c3].take i).foldl cand c1) c) ?g ?_
    case g => exact op_and (X.keeps F₁.keep) Cy' (Ce.keep F₁.keep) (gives_and (X.keeps F₁.keep) (T.keeps F₁.keep) (S.keep F₁.keep) (by walk_at "m_hand") (by k_room) (by walk_at "m_units") Cy' (Ce.keep F₁.keep))
    intro x' h' tk k Cn
    obtain ⟨dxn, esn, nn, z1, z2, z3, z4, z5⟩ := Cn.ex
    have F₂ := fr_grow F₁ k
    have N₂ : News s.heap L' h' ([(x', ctrO dxn esn.toArray nn), (dxn, dictOf [] 0)] ++ own) := news_add F₁ (news_add F₁ (news_sub (news_grow N₁ k) (fun p hp => List.mem_append_right _ hp)) z2 z4) z1 z3
    have hne : ∀ q ∈ [(x', ctrO dxn esn.toArray nn), (dxn, dictOf [] 0)], q.1 ≠ I := by
      intro q hq e
      simp only [List.mem_cons, List.not_mem_nil, or_false] at hq
      rcases hq with rfl | rfl
      · dsimp only at e; rw [← e, z1] at hI; cases hI
      · dsimp only at e; rw [← e, z2] at hI; cases hI
    clear F₁ N₁
    k_steps
    all_goals (try (with_reducible show Halt (wpAny _ _ _ _ _ _); refine Halt.mk ?_))
    (with_reducible rename Fr _ _ _ _ => Fz)
    (with_reducible rename News _ _ _ _ => Nz)
    refine ⟨rfl, _, _, _, _, rfl, Fz, Nz, hne, x', dxn, esn, nn, _, rfl, rfl, ?_, Cn.sys, ?_, ?_⟩
    · rw [htake]; exact z5
    · rw [htake]; exact Cn.nodup
    · rw [htake]; exact Cn.small
  case zdone =>
    rintro m₁ news₁ h tk ⟨y, dx, es, n, g, rfl, rfl, hes, hsys, hnd, hsm⟩ F₁ N₁
    replace F₁ : Fr s.heap L' h _ := F₁
    replace N₁ : News s.heap L' h _ := N₁
    dsimp only
    k_steps
    all_goals (try (with_reducible show Halt (wpAny _ _ _ _ _ _); refine Halt.mk ?_))
    exact hQ y h tk F₁.keep ⟨⟨dx, es, n, (N₁ _ (.head _)).2.2, (N₁ _ (.tail _ (.head _))).2.2, N₁.get (.head _), N₁.get (.tail _ (.head _)), hes⟩, hsys, hnd, hsm⟩
theorem gives_union2 {prog : Program} {w : World} {A : Around} {p : Program} {loose : List Str} {mg mb : Str → Option Value} {s : Shared} {x d1 d2 : Addr} {c1 c2 : List (Int × Int)}
    (X : (hd.heap_39 w.params).In s.heap) (T : TopRead p loose mg mb s.heap) (S : SysIn s.heap) (hA : A.handled = none) (hd : A.depth + 24 < recursionLimit) (hu : A.units + 100 < cLine)
    (C1 : CAt s.heap d1 c1) (C2 : CAt s.heap d2 c2) (hz1 : c1.length ≤ 100) (hz2 : c2.length ≤ 100) : CodeC (model prog w) A s (.call (.ref 184) ⟨[.ref x, .ref d1, .ref d2], []⟩) (cor c1 c2) := by
  intro Q E hQ

  walk_at "m_enterV"
  intro D L' h₁ tk F N hDL
  replace N : News s.heap L' h₁ [(D, tupO [.ref d1, .ref d2])] := N
  k_steps
  all_goals (try (with_reducible show Halt (wpAny _ _ _ _ _ _); refine Halt.mk ?_))
  obtain ⟨dx1, es1, n1, D1, m1⟩ := C1.dat
  refine ctr_method (X.keeps F.keep) (F.keep _ _ D1.at_) rfl rfl (F.keep _ _ m1) (kc_copy w) (looks_typeIn (X.keeps F.keep) (kf44 w)) (by decide) ?_
  k_steps
  all_goals (try (with_reducible show Halt (wpAny _ _ _ _ _ _); refine Halt.mk ?_))
  refine use_gives (gives_copy (X.keeps F.keep) (T.keeps F.keep) (by walk_at "m_hand") (by k_room) (by walk_at "m_units") (C1.keep F.keep)) ?_
  intro y h' tk k Cy
  obtain ⟨dxy, esy, ny, y1, y2, y3, y4, y5⟩ := Cy.ex
  have ysys := Cy.sys
  have F2 := fr_grow F k
  have N2 := news_add F (news_add F (news_grow N k) y2 y4) y1 y3
  clear F N
  k_steps
  all_goals (try (with_reducible show Halt (wpAny _ _ _ _ _ _); refine Halt.mk ?_))
  (with_reducible rename Fr _ _ _ _ => lF)
  (with_reducible rename News _ _ _ _ => lN)
  have hloop : ∀ (i : Nat) (d : Value), ([.ref d2] : List Value)[i]? = some d → ∃ (e : Addr) (c : List (Int × Int)), d = Value.ref e ∧ CAt s.heap e c ∧ ([c2] : List (List (Int × Int)))[i]? = some c ∧ c.length ≤ 100 ∧ i ≤ 1 := by
    intro i d hi
    rcases i with _ | _ | i
    · cases hi; exact ⟨d2, c2, rfl, C2, rfl, hz2, by omega⟩
    · cases hi
    · cases hi
  refine' iter_raw (vs := [.ref d2]) (news := [(y, ctrO dxy esy.toArray ny), (dxy, dictOf [] 0)]) (fun i m nx => ∃ (y dx : Addr) (es : List DictEntry) (n : Nat) (g : Str → Option Value), m = (fun z => if z = Str.ofString "union" then some (Value.ref y) else g z) ∧ nx = [(y, ctrO dx es.toArray n), (dx, dictOf [] 0)] ∧ Ents es (([c2].take i).foldl cor c1) ∧ (y == sysModules) = false ∧ ((([c2].take i).foldl cor c1).map (·.1)).Nodup ∧ (([c2].take i).foldl cor c1).length ≤ 100 * (i + 1)) ?jA ?jF ?jN ?jj ?zturn ?zdone
  case jA => walk_at "m_hand"
  case jF => exact lF
  case jN => exact news_sub lN (by intro q hq; simp only [List.mem_cons, List.not_mem_nil, or_false] at hq ⊢; rcases hq with h | h | h <;> simp [h])
  case jj => exact ⟨y, dxy, esy, ny, _, rfl, rfl, y5, ysys, C1.nodup, by simpa using hz1⟩
  case zturn =>
    rintro I i v m₁ news₁ h tk own hv ⟨y, dx, es, n, g, rfl, rfl, hes, hsys, hnd, hsm⟩ ⟨oI, hI⟩ hoff F₁ N₁
    replace F₁ : Fr s.heap L' h _ := F₁
    replace N₁ : News s.heap L' h _ := N₁
    obtain ⟨e, c, rfl, Ce, hc, hcl, hil⟩ := hloop i v hv
    have hsm1 : (([c2].take i).foldl cor c1).length ≤ 1000 := by omega
    have Cy' : CAt h y _ := ⟨⟨dx, es, n, N₁.get (.head _), N₁.get (.tail _ (.head _)), hes⟩, hsys, hnd, hsm1⟩
    have htake : ([c2].take (i + 1)).foldl cor c1 = cor (([c2].take i).foldl cor c1) c := by rw [List.take_add_one, hc]; simp
    k_steps
    all_goals (try (with_reducible show Halt (wpAny _ _ _ _ _ _); refine Halt.mk ?_))
    refine use_gives (c := cor (([c2].take i).foldl cor c1) c) ?g ?_
    case g => exact op_ior (X.keeps F₁.keep) Cy' (gives_ior (X.keeps F₁.keep) (T.keeps F₁.keep) (S.keep F₁.keep) (by walk_at "m_hand") (by k_room) (by walk_at "m_units") Cy' (Ce.keep F₁.keep) (by omega))
    intro x' h' tk k Cn
    obtain ⟨dxn, esn, nn, z1, z2, z3, z4, z5⟩ := Cn.ex
    have F₂ := fr_grow F₁ k
    have N₂ : News s.heap L' h' ([(x', ctrO dxn esn.toArray nn), (dxn, dictOf [] 0)] ++ own) := news_add F₁ (news_add F₁ (news_sub (news_grow N₁ k) (fun p hp => List.mem_append_right _ hp)) z2 z4) z1 z3
    have hne : ∀ q ∈ [(x', ctrO dxn esn.toArray nn), (dxn, dictOf [] 0)], q.1 ≠ I := by
      intro q hq e
      simp only [List.mem_cons, List.not_mem_nil, or_false] at hq
      rcases hq with rfl | rfl
      · dsimp only at e; rw [← e, z1] at hI; cases hI
      · dsimp only at e; rw [← e, z2] at hI; cases hI
    clear F₁ N₁
    k_steps
    all_goals (try (with_reducible show Halt (wpAny _ _ _ _ _ _); refine Halt.mk ?_))
    (with_reducible rename Fr _ _ _ _ => Fz)
    (with_reducible rename News _ _ _ _ => Nz)
    refine ⟨rfl, _, _, _, _, rfl, Fz, Nz, hne, x', dxn, esn, nn, _, rfl, rfl, ?_, Cn.sys, ?_, ?_⟩
    · rw [htake]; exact z5
    · rw [htake]; exact Cn.nodup
    · rw [htake]; exact Nat.le_trans (cor_len _ _) (by omega)
  case zdone =>
    rintro m₁ news₁ h tk ⟨y, dx, es, n, g, rfl, rfl, hes, hsys, hnd, hsm⟩ F₁ N₁
    replace F₁ : Fr s.heap L' h _ := F₁
    replace N₁ : News s.heap L' h _ := N₁
    dsimp only
    k_steps
    all_goals (try (with_reducible show Halt (wpAny _ _ _ _ _ _); refine Halt.mk ?_))
    exact hQ y h tk F₁.keep ⟨⟨dx, es, n, (N₁ _ (.head _)).2.2, (N₁ _ (.tail _ (.head _))).2.2, N₁.get (.head _), N₁.get (.tail _ (.head _)), hes⟩, hsys, hnd, Nat.le_trans hsm (by simp)⟩
theorem gives_union3 {prog : Program} {w : World} {A : Around} {p : Program} {loose : List Str} {mg mb : Str → Option Value} {s : Shared} {x d1 d2 d3 : Addr} {c1 c2 c3 : List (Int × Int)}
    (X : (hd.heap_39 w.params).In s.heap) (T : TopRead p loose mg mb s.heap) (S : SysIn s.heap) (hA : A.handled = none) (hd : A.depth + 24 < recursionLimit) (hu : A.units + 100 < cLine)
    (C1 : CAt s.heap d1 c1) (C2 : CAt s.heap d2 c2) (C3 : CAt s.heap d3 c3) (hz1 : c1.length ≤ 100) (hz2 : c2.length ≤ 100) (hz3 : c3.length ≤ 100) : CodeC (model prog w) A s (.call (.ref 184) ⟨[.ref x, .ref d1, .ref d2, .ref d3], []⟩) (cor (cor c1 c2) c3) := by
  intro Q E hQ

  walk_at "m_enterV"
  intro D L' h₁ tk F N hDL
  replace N : News s.heap L' h₁ [(D, tupO [.ref d1, .ref d2, .ref d3])] := N
  k_steps
  all_goals (try (with_reducible show Halt (wpAny _ _ _ _ _ _); refine Halt.mk ?_))
  obtain ⟨dx1, es1, n1, D1, m1⟩ := C1.dat
  refine ctr_method (X.keeps F.keep) (F.keep _ _ D1.at_) rfl rfl (F.keep _ _ m1) (kc_copy w) (looks_typeIn (X.keeps F.keep) (kf44 w)) (by decide) ?_
  k_steps
  all_goals (try (with_reducible show Halt (wpAny _ _ _ _ _ _); refine Halt.mk ?_))
  refine use_gives (gives_copy (X.keeps F.keep) (T.keeps F.keep) (by walk_at "m_hand") (by k_room) (by walk_at "m_units") (C1.keep F.keep)) ?_
  intro y h' tk k Cy
  obtain ⟨dxy, esy, ny, y1, y2, y3, y4, y5⟩ := Cy.ex
  have ysys := Cy.sys
  have F2 := fr_grow F k
  have N2 := news_add F (news_add F (news_grow N k) y2 y4) y1 y3
  clear F N
  k_steps
  all_goals (try (with_reducible show Halt (wpAny _ _ _ _ _ _); refine Halt.mk ?_))
  (with_reducible rename Fr _ _ _ _ => lF)
  (with_reducible rename News _ _ _ _ => lN)
  have hloop : ∀ (i : Nat) (d : Value), ([.ref d2, .ref d3] : List Value)[i]? = some d → ∃ (e : Addr) (c : List (Int × Int)), d = Value.ref e ∧ CAt s.heap e c ∧ ([c2, c3] : List (List (Int × Int)))[i]? = some c ∧ c.length ≤ 100 ∧ i ≤ 1 := by
    intro i d hi
    rcases i with _ | _ | i
    · cases hi; exact ⟨d2, c2, rfl, C2, rfl, hz2, by omega⟩
    · cases hi; exact ⟨d3, c3, rfl, C3, rfl, hz3, by omega⟩
    · cases hi
  refine' iter_raw (vs := [.ref d2, .ref d3]) (news := [(y, ctrO dxy esy.toArray ny), (dxy, dictOf [] 0)]) (fun i m nx => ∃ (y dx : Addr) (es : List DictEntry) (n : Nat) (g : Str → Option Value), m = (fun z => if z = Str.ofString "union" then some (Value.ref y) else g z) ∧ nx = [(y, ctrO dx es.toArray n), (dx, dictOf [] 0)] ∧ Ents es (([c2, c3].take i).foldl cor c1) ∧ (y == sysModules) = false ∧ ((([c2, c3].take i).foldl cor c1).map (·.1)).Nodup ∧ (([c2, c3].take i).foldl cor c1).length ≤ 100 * (i + 1)) ?jA ?jF ?jN ?jj ?zturn ?zdone
  case jA => walk_at "m_hand"
  case jF => exact lF
  case jN => exact news_sub lN (by intro q hq; simp only [List.mem_cons, List.not_mem_nil, or_false] at hq ⊢; rcases hq with h | h | h <;> simp [h])
  case jj => exact ⟨y, dxy, esy, ny, _, rfl, rfl, y5, ysys, C1.nodup, by simpa using hz1⟩
  case zturn =>
    rintro I i v m₁ news₁ h tk own hv ⟨y, dx, es, n, g, rfl, rfl, hes, hsys, hnd, hsm⟩ ⟨oI, hI⟩ hoff F₁ N₁
    replace F₁ : Fr s.heap L' h _ := F₁
    replace N₁ : News s.heap L' h _ := N₁
    obtain ⟨e, c, rfl, Ce, hc, hcl, hil⟩ := hloop i v hv
    have hsm1 : (([c2, c3].take i).foldl cor c1).length ≤ 1000 := by omega
    have Cy' : CAt h y _ := ⟨⟨dx, es, n, N₁.get (.head _), N₁.get (.tail _ (.head _)), hes⟩, hsys, hnd, hsm1⟩
    have htake : ([c2, c3].take (i + 1)).foldl cor c1 = cor (([c2, c3].take i).foldl cor c1) c := by rw [List.take_add_one, hc]; simp
    k_steps
    all_goals (try (with_reducible show Halt (wpAny _ _ _ _ _ _); refine Halt.mk ?_))
    refine use_gives (c := cor (([c2, c3].take i).foldl cor c1) c) ?g ?_
    case g => exact op_ior (X.keeps F₁.keep) Cy' (gives_ior (X.keeps F₁.keep) (T.keeps F₁.keep) (S.keep F₁.keep) (by walk_at "m_hand") (by k_room) (by walk_at "m_units") Cy' (Ce.keep F₁.keep) (by omega))
    intro x' h' tk k Cn
    obtain ⟨dxn, esn, nn, z1, z2, z3, z4, z5⟩ := Cn.ex
    have F₂ := fr_grow F₁ k
    have N₂ : News s.heap L' h' ([(x', ctrO dxn esn.toArray nn), (dxn, dictOf [] 0)] ++ own) := news_add F₁ (news_add F₁ (news_sub (news_grow N₁ k) (fun p hp => List.mem_append_right _ hp)) z2 z4) z1 z3
    have hne : ∀ q ∈ [(x', ctrO dxn esn.toArray nn), (dxn, dictOf [] 0)], q.1 ≠ I := by
      intro q hq e
      simp only [List.mem_cons, List.not_mem_nil, or_false] at hq
      rcases hq with rfl | rfl
      · dsimp only at e; rw [← e, z1] at hI; cases hI
      · dsimp only at e; rw [← e, z2] at hI; cases hI
    clear F₁ N₁
    k_steps
    all_goals (try (with_reducible show Halt (wpAny _ _ _ _ _ _); refine Halt.mk ?_))
    (with_reducible rename Fr _ _ _ _ => Fz)
    (with_reducible rename News _ _ _ _ => Nz)
    refine ⟨rfl, _, _, _, _, rfl, Fz, Nz, hne, x', dxn, esn, nn, _, rfl, rfl, ?_, Cn.sys, ?_, ?_⟩
    · rw [htake]; exact z5
    · rw [htake]; exact Cn.nodup
    · rw [htake]; exact Nat.le_trans (cor_len _ _) (by omega)
  case zdone =>
    rintro m₁ news₁ h tk ⟨y, dx, es, n, g, rfl, rfl, hes, hsys, hnd, hsm⟩ F₁ N₁
    replace F₁ : Fr s.heap L' h _ := F₁
    replace N₁ : News s.heap L' h _ := N₁
    dsimp only
    k_steps
    all_goals (try (with_reducible show Halt (wpAny _ _ _ _ _ _); refine Halt.mk ?_))
    exact hQ y h tk F₁.keep ⟨⟨dx, es, n, (N₁ _ (.head _)).2.2, (N₁ _ (.tail _ (.head _))).2.2, N₁.get (.head _), N₁.get (.tail _ (.head _)), hes⟩, hsys, hnd, Nat.le_trans hsm (by simp)⟩

end

section
open PySem PySem.W PySem.Calls PyProof.Rows
set_option maxHeartbeats 4000000
abbrev tabO (ps : Array Value) : Obj := { cls := .none, data := .fields ps }
/-- the two tables of codes that may grow: of _get_counters and of Sorensen.__call__ -/
structure Tabs (h : Heap) : Prop where
  a : ∃ ps, h.IsCode 169 167 ps ∧ h.TableAt 169 167 ps
  b : ∃ ps, h.IsCode 300 296 ps ∧ h.TableAt 300 296 ps
theorem Tabs.keep {h h' : Heap} (t : Tabs h) (k : ∀ b o, h.get? b = some o → h'.get? b = some o) : Tabs h' :=
  let ⟨⟨ps, a1, a2⟩, ⟨qs, b1, b2⟩⟩ := t; ⟨⟨ps, a1.keeps k, a2.keeps k⟩, ⟨qs, b1.keeps k, b2.keeps k⟩⟩
theorem Tabs.at_ {h h' : Heap} (t : Tabs h) (k : ∀ b o, b ≤ 300 → h.get? b = some o → h'.get? b = some o) : Tabs h' := by
  obtain ⟨⟨ps, a1, a2⟩, ⟨qs, b1, b2⟩⟩ := t
  refine ⟨⟨ps, ?_, ?_⟩, ⟨qs, ?_, ?_⟩⟩
  · obtain ⟨o, vs, file, tf, flags, tg, inF, text, tt, op, ho, r1, r2, r3, r4, r5, r6, hop, r⟩ := a1
    exact ⟨o, vs, file, tf, flags, tg, inF, text, tt, op, k _ _ (by decide) ho, r1, r2, r3, r4, r5, r6, k _ _ (by decide) hop, r⟩
  · obtain ⟨⟨o, vs, e, r⟩, e2⟩ := a2
    exact ⟨⟨o, vs, k _ _ (by decide) e, r⟩, k _ _ (by decide) e2⟩
  · obtain ⟨o, vs, file, tf, flags, tg, inF, text, tt, op, ho, r1, r2, r3, r4, r5, r6, hop, r⟩ := b1
    exact ⟨o, vs, file, tf, flags, tg, inF, text, tt, op, k _ _ (by decide) ho, r1, r2, r3, r4, r5, r6, k _ _ (by decide) hop, r⟩
  · obtain ⟨⟨o, vs, e, r⟩, e2⟩ := b2
    exact ⟨⟨o, vs, k _ _ (by decide) e, r⟩, k _ _ (by decide) e2⟩
/-- all that stood stands, but the two tables, which may grow -/
structure Soft (h h' : Heap) : Prop where
  keep : ∀ b o, b ≠ 167 → b ≠ 296 → h.get? b = some o → h'.get? b = some o
  a : ∀ ps, h.get? 167 = some (tabO ps) → ∃ more, h'.get? 167 = some (tabO (ps ++ more))
  b : ∀ ps, h.get? 296 = some (tabO ps) → ∃ more, h'.get? 296 = some (tabO (ps ++ more))
theorem Soft.of_keep {h h' : Heap} (k : ∀ b o, h.get? b = some o → h'.get? b = some o) : Soft h h' :=
  ⟨fun b o _ _ e => k b o e, fun ps e => ⟨#[], by rw [Array.append_empty]; exact k _ _ e⟩, fun ps e => ⟨#[], by rw [Array.append_empty]; exact k _ _ e⟩⟩
theorem Soft.trans {h h' h'' : Heap} (s : Soft h h') (t : Soft h' h'') : Soft h h'' :=
  ⟨fun b o h1 h2 e => t.keep b o h1 h2 (s.keep b o h1 h2 e),
   fun ps e => by obtain ⟨m, e1⟩ := s.a ps e; obtain ⟨m2, e2⟩ := t.a _ e1; exact ⟨m ++ m2, by rw [← Array.append_assoc]; exact e2⟩,
   fun ps e => by obtain ⟨m, e1⟩ := s.b ps e; obtain ⟨m2, e2⟩ := t.b _ e1; exact ⟨m ++ m2, by rw [← Array.append_assoc]; exact e2⟩⟩
theorem Soft.then_keep {h h' h'' : Heap} (s : Soft h h') (k : ∀ b o, h'.get? b = some o → h''.get? b = some o) : Soft h h'' := s.trans (.of_keep k)
/-- an object that is no table is kept -/
theorem Tabs.cls {h : Heap} (t : Tabs h) {b : Addr} {o : Obj} (e : h.get? b = some o) (hc : o.cls ≠ .none) : b ≠ 167 ∧ b ≠ 296 := by
  obtain ⟨⟨ps, _, _, p2⟩, ⟨qs, _, _, q2⟩⟩ := t
  refine ⟨?_, ?_⟩
  · rintro rfl; rw [p2] at e; cases e; exact hc rfl
  · rintro rfl; rw [q2] at e; cases e; exact hc rfl
theorem Tabs.ns {h : Heap} (t : Tabs h) {b : Addr} {m : Str → Option Value} (n : h.Ns b m) : b ≠ 167 ∧ b ≠ 296 := by
  obtain ⟨⟨ps, _, _, p2⟩, ⟨qs, _, _, q2⟩⟩ := t
  obtain ⟨o, es, ep, e, hd, _⟩ := n
  refine ⟨?_, ?_⟩
  · rintro rfl; rw [p2] at e; cases e; cases hd
  · rintro rfl; rw [q2] at e; cases e; cases hd
theorem Soft.cls {h h' : Heap} (s : Soft h h') (t : Tabs h) {b : Addr} {o : Obj} (e : h.get? b = some o) (hc : o.cls ≠ .none) : h'.get? b = some o := s.keep b o (t.cls e hc).1 (t.cls e hc).2 e
theorem Soft.ns {h h' : Heap} (s : Soft h h') (t : Tabs h) {b : Addr} {m : Str → Option Value} (n : h.Ns b m) : h'.Ns b m := by
  have hb := t.ns n
  obtain ⟨o, es, ep, e, r⟩ := n
  exact ⟨o, es, ep, s.keep b o hb.1 hb.2 e, r⟩
theorem Soft.limit {h h' : Heap} (s : Soft h h') (t : Tabs h) (n : h.NoLimit) : h'.NoLimit := let ⟨mc, a, b⟩ := n; ⟨mc, s.ns t a, b⟩
theorem Soft.top {h h' : Heap} (s : Soft h h') (t : Tabs h) {p : Program} {loose : List Str} {mg mb : Str → Option Value} (T : TopRead p loose mg mb h) : TopRead p loose mg mb h' := ⟨s.ns t T.g, s.ns t T.b, s.limit t T.nolimit, T.builtins, T.free⟩
theorem k_no167 (w : World) : (hd.heap_39 w.params).lookup 167 = none := by kernel_rfl
theorem k_no296 (w : World) : (hd.heap_39 w.params).lookup 296 = none := by kernel_rfl
theorem Soft.frag {h h' : Heap} (s : Soft h h') {w : World} (X : (hd.heap_39 w.params).In h) : (hd.heap_39 w.params).In h' := fun a o e => s.keep a o (by rintro rfl; rw [k_no167] at e; cases e) (by rintro rfl; rw [k_no296] at e; cases e) (X a o e)
theorem Soft.bmod {h h' : Heap} (s : Soft h h') (t : Tabs h) {g bm : Addr} {mg : Str → Option Value} {ob : Obj} (M : BMod h g mg bm ob) : BMod h' g mg bm ob := ⟨s.ns t M.ns, M.name, M.ne, s.cls t M.obj (by rw [M.cls]; exact fun e => by cases e), M.cls, M.dict, M.data⟩
theorem Soft.ctr {h h' : Heap} (s : Soft h h') (t : Tabs h) {x : Addr} {c : List (Int × Int)} (C : CAt h x c) : CAt h' x c :=
  let ⟨dx, es, n, h1, h2, h3⟩ := C.ex; ⟨⟨dx, es, n, s.cls t h1 (fun e => by cases e), s.cls t h2 (fun e => by cases e), h3⟩, C.sys, C.nodup, C.small⟩
theorem Soft.meas {h h' : Heap} (s : Soft h h') (t : Tabs h) {x dx C : Addr} {es : List DictEntry} {n : Nat} (M : Meas h x dx C es n) : Meas h' x dx C es n := ⟨s.cls t M.at_ (fun e => by cases e), s.cls t M.dat (fun e => by cases e)⟩
/-- what the body of a contract may ask of the heap at the call -/
structure Bas (w : World) (p : Program) (loose : List Str) (mg mb : Str → Option Value) (bm : Addr) (ob : Obj) (h : Heap) : Prop where
  X : (hd.heap_39 w.params).In h
  T : TopRead p loose mg mb h
  S : SysIn h
  M : BMod h mainGlobals mg bm ob
  t : Tabs h
  sysc : ∀ o, h.get? sysModules = some o → o.cls ≠ .none
theorem Bas.keep {w : World} {p : Program} {loose : List Str} {mg mb : Str → Option Value} {bm : Addr} {ob : Obj} {h h' : Heap} (B : Bas w p loose mg mb bm ob h) (k : ∀ b o, h.get? b = some o → h'.get? b = some o) : Bas w p loose mg mb bm ob h' :=
  ⟨B.X.keeps k, B.T.keeps k, B.S.keep k, B.M.keeps k, B.t.keep k, fun o e => by obtain ⟨o', e'⟩ := B.S.ex; rw [k _ _ e'] at e; cases e; exact B.sysc _ e'⟩
theorem Bas.soft {w : World} {p : Program} {loose : List Str} {mg mb : Str → Option Value} {bm : Addr} {ob : Obj} {h h' : Heap} (B : Bas w p loose mg mb bm ob h) (s : Soft h h') (t : Tabs h') : Bas w p loose mg mb bm ob h' :=
  ⟨s.frag B.X, s.top B.t B.T, let ⟨o, e⟩ := B.S.ex; ⟨o, s.cls B.t e (B.sysc o e)⟩, s.bmod B.t B.M, t, fun o e => by obtain ⟨o', e'⟩ := B.S.ex; rw [s.cls B.t e' (B.sysc o' e')] at e; cases e; exact B.sysc _ e'⟩
/-- the base of a frame after a soft change -/
theorem rebase {h₀ h h' : Heap} {L : Addr} {m : Str → Option Value} (t : Tabs h₀) (F : Fr h₀ L h m) (s : Soft h h') (t' : Tabs h') :
    ∃ h₁, Soft h₀ h₁ ∧ Tabs h₁ ∧ Fr h₁ L h' m ∧ (∀ news, News h₀ L h news → News h₁ L h' news) ∧ ∀ b, h.get? b = none → h₁.get? b = none := by
  have th := t.keep F.keep
  obtain ⟨⟨ps, p1, p2⟩, ⟨qs, q1, q2⟩⟩ := t
  obtain ⟨m1, e1⟩ := s.a ps (F.keep _ _ p2.2)
  obtain ⟨m2, e2⟩ := s.b qs (F.keep _ _ q2.2)
  have hne : ∀ x y : Addr, (x : Nat) ≠ y → x ≠ y := fun _ _ h => h
  let g1 := h₀.update 167 fun _ => tabO (ps ++ m1)
  have a1 : g1.get? 167 = some (tabO (ps ++ m1)) := Heap.get?_update_self _ p2.2 rfl
  have a2 : ∀ b, b ≠ 167 → g1.get? b = h₀.get? b := fun b hb => Heap.get?_update_other _ _ (Ne.symm hb)
  let g2 := g1.update 296 fun _ => tabO (qs ++ m2)
  have b1 : g2.get? 296 = some (tabO (qs ++ m2)) := Heap.get?_update_self _ ((a2 296 (by decide)).trans q2.2) rfl
  have b2 : ∀ b, b ≠ 296 → g2.get? b = g1.get? b := fun b hb => Heap.get?_update_other _ _ (Ne.symm hb)
  have c1 : g2.get? 167 = some (tabO (ps ++ m1)) := (b2 167 (by decide)).trans a1
  have c2 : ∀ b, b ≠ 167 → b ≠ 296 → g2.get? b = h₀.get? b := fun b h1 h2 => (b2 b h2).trans (a2 b h1)
  have hsz : g2.objs.size = h₀.objs.size := by simp [g2, g1]
  have hS : Soft h₀ g2 := ⟨fun b o h1 h2 e => (c2 b h1 h2).trans e, fun ps' e => by rw [p2.2] at e; cases e; exact ⟨m1, c1⟩, fun qs' e => by rw [q2.2] at e; cases e; exact ⟨m2, b1⟩⟩
  have hkeep : ∀ b o, g2.get? b = some o → h'.get? b = some o := by
    intro b o e
    by_cases h1 : b = 167
    · subst h1; rw [c1] at e; cases e; exact e1
    · by_cases h2 : b = 296
      · subst h2; rw [b1] at e; cases e; exact e2
      · rw [c2 b h1 h2] at e; exact s.keep b o h1 h2 (F.keep b o e)
  refine ⟨g2, hS, ?_, ⟨s.ns th F.ns, hkeep, by rw [hsz]; exact F.above⟩, ?_, ?_⟩
  · obtain ⟨⟨ps', p1', p2'⟩, ⟨qs', q1', q2'⟩⟩ := t'
    have : ps' = ps ++ m1 := by have := p2'.2; rw [e1] at this; cases this; rfl
    subst this
    have : qs' = qs ++ m2 := by have := q2'.2; rw [e2] at this; cases this; rfl
    subst this
    refine ⟨⟨ps ++ m1, ?_, ?_⟩, ⟨qs ++ m2, ?_, ?_⟩⟩
    · obtain ⟨o, vs, file, tf, flags, tg, inF, text, tt, op, ho, r1, r2, r3, r4, r5, r6, _, _, _, r9⟩ := p1
      obtain ⟨_, _, _, _, _, _, _, _, _, _, _, _, _, _, _, _, _, _, _, htr, _⟩ := p1'
      exact ⟨o, vs, file, tf, flags, tg, inF, text, tt, _, (c2 169 (by decide) (by decide)).trans ho, r1, r2, r3, r4, r5, r6, c1, rfl, htr, r9⟩
    · obtain ⟨⟨o, vs, e, r⟩, _⟩ := p2
      exact ⟨⟨o, vs, (c2 169 (by decide) (by decide)).trans e, r⟩, c1⟩
    · obtain ⟨o, vs, file, tf, flags, tg, inF, text, tt, op, ho, r1, r2, r3, r4, r5, r6, _, _, _, r9⟩ := q1
      obtain ⟨_, _, _, _, _, _, _, _, _, _, _, _, _, _, _, _, _, _, _, htr, _⟩ := q1'
      exact ⟨o, vs, file, tf, flags, tg, inF, text, tt, _, (c2 300 (by decide) (by decide)).trans ho, r1, r2, r3, r4, r5, r6, b1, rfl, htr, r9⟩
    · obtain ⟨⟨o, vs, e, r⟩, _⟩ := q2
      exact ⟨⟨o, vs, (c2 300 (by decide) (by decide)).trans e, r⟩, b1⟩
  · intro news N q hm
    have n1 := N q hm
    have hb : q.1 ≠ 167 ∧ q.1 ≠ 296 := by
      refine ⟨?_, ?_⟩
      · intro e; have := n1.2.2; rw [e, p2.2] at this; cases this
      · intro e; have := n1.2.2; rw [e, q2.2] at this; cases this
    exact ⟨s.keep _ _ hb.1 hb.2 n1.1, n1.2.1, (c2 _ hb.1 hb.2).trans n1.2.2⟩
  · intro b hb
    cases e : g2.get? b with
    | none => rfl
    | some o =>
      exfalso
      by_cases h1 : b = 167
      · subst h1; rw [F.keep _ _ p2.2] at hb; cases hb
      · by_cases h2 : b = 296
        · subst h2; rw [F.keep _ _ q2.2] at hb; cases hb
        · rw [c2 b h1 h2] at e; rw [F.keep _ _ e] at hb; cases hb
theorem Soft.none {h h' : Heap} (s : Soft h h') (t' : Tabs h') {b : Addr} (e : h'.get? b = none) : h.get? b = none := by
  obtain ⟨⟨ps, _, p2⟩, ⟨qs, _, q2⟩⟩ := t'
  cases q : h.get? b with
  | none => rfl
  | some o =>
    exfalso
    by_cases h1 : b = 167
    · subst h1; rw [p2.2] at e; cases e
    · by_cases h2 : b = 296
      · subst h2; rw [q2.2] at e; cases e
      · rw [s.keep b o h1 h2 q] at e; cases e
/-- a fresh object joins the ledger of a frame that has got a new base -/
theorem news_fresh {h₀ h₁ h h' : Heap} {L T : Addr} {m : Str → Option Value} {news : List (Addr × Obj)} {o : Obj} (F : Fr h₀ L h m) (hb : ∀ b, h.get? b = none → h₁.get? b = none) (N : News h₁ L h' news) (hT : h.get? T = none) (hT' : h'.get? T = some o) : News h₁ L h' ((T, o) :: news) := by
  intro q hq
  rcases List.mem_cons.mp hq with rfl | hq
  · refine ⟨hT', ?_, hb _ hT⟩
    rintro rfl
    obtain ⟨oL, _, _, hL, _⟩ := F.ns
    rw [hL] at hT; cases hT
  · exact N q hq

end

section
open PySem PySem.W PySem.Calls PyProof.Rows
set_option maxHeartbeats 4000000
theorem passing_true (n : Nat) : passing (fun _ => true) n 0 = List.range n := by simp [passing]
section
variable {prog : Program} {w : World} {A : Around} {E : Value → Shared → Prop} {s : Shared} {p : Program} {loose : List Str} {mg mb : Str → Option Value} {bm : Addr} {ob : Obj}
theorem gen_all {env : Env} {elt iter : Expr} {x : Str} {px : Pos} {scope : Scope} {cl : List (Str × Addr)} {pos : Pos} {Q : Value → Shared → Prop} {D : Addr} {vs : List Value} {q : Nat → Bool}
    (B : Bas w p loose mg mb bm ob s.heap) (hG : AllBare s.gens) (hcode : env.code = .ref 169) (hgl : env.globals = mainGlobals)
    (hA : A.handled = none) (hco : scope.isCoroutine = false) (hclos : closureFor scope env = pure cl) (hcell : ∀ y ∈ scope.names, y.2 ≠ .cell) (h0 : scope.names.lookup (".0" : Str) = some NameKind.local)
    (hx : scope.names.lookup x = some .local) (hkind : scope.kind = .function) (hroom : A.depth < recursionLimit)
    (ht : s.heap.IsTuple D vs.toArray)
    (hit : ∀ Q' E', Q' (.ref D) s → wpAny (model prog w) A (eval iter env) Q' E' s)
    (helt : ∀ (A' : Around) E' (code : Value) (C : Addr) (i : Nat) v (s₂ : Shared) m₂, A'.handled = none → vs[i]? = some v → s₂.heap.Ns C m₂ → m₂ x = some v → Soft s.heap s₂.heap → wpAny (model prog w) A' (eval elt (genEnv scope cl C code builtinsNs env)) (fun y s₃ => y = .bool (q i) ∧ Keeps s₂ s₃) E' s₂)
    (h : ∀ a s₁, s₁.os = s.os → Soft s.heap s₁.heap → Tabs s₁.heap →
      (∀ Q' E', (∀ s', s'.os = s.os → AllBare s'.gens → Soft s.heap s'.heap → Tabs s'.heap → Q' (.bool ((List.range vs.length).all q)) s') → wpAny (model prog w) A (call (.builtin "all") [.ref a]) Q' E' s₁) → Q (.ref a) s₁)
    (hs : ∀ x, genFold iter env x = pure x) :
    wpAny (model prog w) A (eval (.GeneratorExp elt [⟨.Name x px, iter, [], 0⟩] scope pos) env) Q E s := by
  have hDlt : D < s.heap.objs.size := let ⟨_, e, _⟩ := ht; Heap.lt_size e
  have hne : D ≠ s.heap.objs.size := Nat.ne_of_lt hDlt
  refine wpAny_GeneratorExp_walksQ hA hco hclos hcell h0 hx hkind hroom (hit _ _ (wpAny_pyIter_tuple ht ?_)) hs
  generalize hI : s.heap.objs.size = I at *
  generalize hio : ({ cls := .type "tuple_iterator", data := .fields #[.ref D, .int 0 0] } : Obj) = io
  have hiof : io.isFreed = false := by subst hio; rfl
  have hI2 : (s.heap.push io).get? I = some io := by subst hI; exact Heap.get?_push_size _ hiof
  have hk2 : ∀ b o, s.heap.get? b = some o → (s.heap.push io).get? b = some o := fun b o e => Heap.get?_push_of_some _ e
  have hsz2 : (s.heap.push io).objs.size = I + 1 := by subst hI; exact Heap.size_push ..
  have B2 := B.keep hk2
  refine ⟨B2.T.nolimit, ?_⟩
  have old : ∀ b o, s.heap.get? b = some o → b < I := fun b o e => by subst hI; exact Heap.lt_size e
  have common : ∀ (code : Value) (h₃ : Heap) tk₃, Soft (s.heap.push io) h₃ → Tabs h₃ → (s.heap.push io).objs.size ≤ h₃.objs.size →
      wpAny (model prog w) A (builtinsFor env.globals env.builtins) (fun bi s₄ => ∃ I0 fp wr n₀ P St₀ pz F, (Value.ref I) = .ref I0 ∧ (∀ A' : Around, A'.handled = none → Walks prog w A' I0 fp wr n₀ P St₀) ∧ St₀ 0 s₄.heap ∧ (∀ b ∈ fp, b < s₄.heap.objs.size) ∧ s₄.heap.NoLimit ∧ cStatics ∉ wr ∧
          (∀ href : Heap, (∀ b o, s₄.heap.get? b = some o → href.get? b = some o) →
            QuietGen prog w (genEnv scope cl s₄.heap.objs.size code bi env) x [] elt (List.range s₄.heap.objs.size) wr P pz F href) ∧
          (∀ a h₅ tk gs, gs.bare = true → s₄.heap.objs.size < a → h₅.objs.size = a + 1 → (∀ b o, s₄.heap.get? b = some o → h₅.get? b = some o) →
            WalksS prog w A.in4 a (a :: s₄.heap.objs.size :: List.range s₄.heap.objs.size) (s₄.heap.objs.size :: wr) (GenOnlyQ s₄.gens.size) (passing pz n₀ 0).length
              (fun j y => ∃ i, (passing pz n₀ 0)[j]? = some i ∧ F i y) (GenAt prog w A.in4 a s₄.gens.size s₄.heap.objs.size (List.range s₄.heap.objs.size) wr pz n₀ F) →
            GenAt prog w A.in4 a s₄.gens.size s₄.heap.objs.size (List.range s₄.heap.objs.size) wr pz n₀ F 0 { s₄ with gens := s₄.gens.push gs, toks := tk, heap := h₅ } →
            Q (.ref a) { s₄ with gens := s₄.gens.push gs, toks := tk, heap := h₅ })) E { s with heap := h₃, toks := tk₃ } := by
    intro code h₃ tk₃ sf t₃ hge
    have B₃ := B2.soft sf t₃
    have sf0 : Soft s.heap h₃ := (Soft.of_keep hk2).trans sf
    rw [hgl]
    refine wpAny_builtinsFor B₃.M.ns B₃.M.name B₃.M.ne B₃.M.obj B₃.M.cls B₃.M.dict B₃.M.data ?_
    have hst : h₃.IsTupleIter I D 0 ∧ h₃.IsTuple D vs.toArray := by
      obtain ⟨od, hod, hc, r⟩ := ht
      refine ⟨⟨io, sf.cls B2.t hI2 (by subst hio; exact fun e => by cases e), by subst hio; rfl, by subst hio; rfl⟩, ⟨od, sf0.cls B.t hod (by rw [hc]; exact fun e => by cases e), hc, r⟩⟩
    have hIlt : I < h₃.objs.size := by rw [hsz2] at hge; exact hge
    refine ⟨I, [I, D], [I], vs.toArray.size, fun i v => vs.toArray[i]? = some v, _, fun _ => true, fun i y => y = .bool (q i), rfl, fun A' hA' => Walks.tuple hA' I D hne vs.toArray, hst, ?_, B₃.T.nolimit, ?_, ?_, ?_⟩
    · intro b hb
      rcases List.mem_cons.mp hb with rfl | hb
      · exact hIlt
      · rw [List.mem_singleton.mp hb]; exact Nat.lt_trans hDlt hIlt
    · intro hb
      obtain ⟨mc, hn, _⟩ := B.T.nolimit
      have := old _ _ hn.choose_spec.choose_spec.choose_spec.1
      rw [List.mem_singleton.mp hb] at this
      exact absurd this (Nat.lt_irrefl _)
    · intro href hhref
      have soft2 : ∀ (s₂ : Shared), (∀ b ∈ List.range h₃.objs.size, b ∉ [I] → ∀ o, href.get? b = some o → s₂.heap.get? b = some o) → Soft s.heap s₂.heap := by
        intro s₂ hb
        have lift : ∀ b o, b ≠ I → h₃.get? b = some o → s₂.heap.get? b = some o := fun b o h1 e => hb b (List.mem_range.mpr (Heap.lt_size e)) (by simpa using h1) o (hhref b o e)
        refine ⟨fun b o h1 h2 e => lift b o (Nat.ne_of_lt (old b o e)) (sf0.keep b o h1 h2 e), fun ps e => ?_, fun ps e => ?_⟩
        · obtain ⟨more, e2⟩ := sf0.a ps e
          exact ⟨more, lift _ _ (Nat.ne_of_lt (old _ _ e)) e2⟩
        · obtain ⟨more, e2⟩ := sf0.b ps e
          exact ⟨more, lift _ _ (Nat.ne_of_lt (old _ _ e)) e2⟩
      refine ⟨fun A' E' i v s₂ m₂ hA' hP hn hm hb => ?_, fun A' E' i v s₂ m₂ hA' hP _ hn hm hb => ?_⟩
      · exact wpAny_pure ⟨rfl, _, _, rfl, fun _ _ e => e⟩
      · exact helt A' E' code _ i v s₂ m₂ hA' (by simpa using hP) hn hm (soft2 s₂ hb)
    · intro a h₅ tk gs hgb hag hsz₅ hk₅ W hat
      have sf5 : Soft s.heap h₅ := sf0.then_keep hk₅
      refine h a _ rfl sf5 (t₃.keep hk₅) ?_
      intro Q' E' hQ'
      have W1 := W.in4_1
      have hlen : (passing (fun _ => true) vs.toArray.size 0).length = vs.length := by rw [passing_true]; simp
      have htr : TruthOf prog w A.in1 (fun j y => ∃ i, (passing (fun _ => true) vs.toArray.size 0)[j]? = some i ∧ y = .bool (q i)) q := by
        rintro j v s' Q'' E'' ⟨i, hi, rfl⟩ hq
        rw [passing_true] at hi
        obtain ⟨hj, rfl⟩ := List.getElem?_eq_some_iff.mp hi
        rw [List.getElem_range]
        exact wpAny_truthy_bool hq
      refine call_all_walkS (W1.self 0 _ _ _ hat ⟨a, _, _, _, _, _, _, q, rfl, W1, hat, htr, fun s' hm => ?_⟩)
      rw [hlen]
      have lift : ∀ b o, b < I → h₅.get? b = some o → s'.heap.get? b = some o := by
        intro b o hb e
        refine hm.heap b o ?_ e
        simp only [List.mem_cons, List.not_mem_nil, or_false, not_or]
        exact ⟨Nat.ne_of_lt (Nat.lt_trans hb hIlt), Nat.ne_of_lt hb⟩
      have h300 : 300 < I := by
        obtain ⟨_, _, t2⟩ := B.t.b
        obtain ⟨⟨_, _, e, _⟩, _⟩ := t2
        exact old _ _ e
      refine hQ' s' hm.os ((AllBare.push hG hgb).movedS hm) ⟨fun b o h1 h2 e => lift b o (old b o e) (sf5.keep b o h1 h2 e), fun ps e => ?_, fun ps e => ?_⟩ ((t₃.keep hk₅).at_ fun b o hb e => lift b o (Nat.lt_of_le_of_lt hb h300) e)
      · obtain ⟨more, e2⟩ := sf5.a ps e
        exact ⟨more, lift _ _ (old _ _ e) e2⟩
      · obtain ⟨more, e2⟩ := sf5.b ps e
        exact ⟨more, lift _ _ (old _ _ e) e2⟩
  obtain ⟨⟨ps, c1, c2⟩, ⟨qs, d1, d2⟩⟩ := id B2.t
  cases hca : codeAmong pos ps.toList with
  | none =>
    refine wpAny_genexprCodeX hcode c1 c2 hca fun c' h' tk hx hge hlt hc' _ ht' _ => ?_
    have sf : Soft (s.heap.push io) h' := ⟨fun b o h1 _ e => hx b o h1 e, fun ps' e => by rw [c2.2] at e; cases e; exact ⟨_, ht'.2⟩, fun qs' e => ⟨#[], by rw [Array.append_empty]; exact hx _ _ (by decide) e⟩⟩
    have t' : Tabs h' := ⟨⟨_, hc', ht'⟩, ⟨qs, d1.extBut hx (by decide) (by decide), d2.extBut hx (by decide) (by decide)⟩⟩
    have := common (.ref c') h' tk sf t' (Nat.le_trans hge (Nat.le_of_lt hlt))
    exact this
  | some c' =>
    refine wpAny_genexprCode_hit hcode c1 hca ?_
    have := common c' (s.heap.push io) s.toks (.of_keep fun _ _ e => e) B2.t (Nat.le_refl _)
    exact this
end

end

section
open PySem PySem.W PySem.Calls PyProof.Rows
set_option maxHeartbeats 4000000
/-- a fresh Counter that lies apart from X -/
def CSep (h₀ : Heap) (X : List Addr) (h : Heap) (T : Addr) (c : List (Int × Int)) : Prop :=
  ∃ dx es n, T ∉ X ∧ dx ∉ X ∧ h₀.get? T = none ∧ h₀.get? dx = none ∧ h.get? T = some (ctrO dx es.toArray n) ∧ h.get? dx = some (dictOf [] 0) ∧ Ents es c ∧ (T == sysModules) = false ∧ (c.map (·.1)).Nodup ∧ c.length ≤ 1000
theorem CSep.keep {h₀ h h' : Heap} {X : List Addr} {T : Addr} {c : List (Int × Int)} (s : CSep h₀ X h T c) (k : ∀ b o, b ∉ X → h.get? b = some o → h'.get? b = some o) : CSep h₀ X h' T c :=
  let ⟨dx, es, n, a, b, c1, c2, d, e, r⟩ := s; ⟨dx, es, n, a, b, c1, c2, k _ _ a d, k _ _ b e, r⟩
theorem CSep.new {h₀ h : Heap} {X : List Addr} {T : Addr} {c : List (Int × Int)} (s : CSep h₀ X h T c) : CNew h₀ h T c :=
  let ⟨dx, es, n, _, _, c1, c2, d, e, r1, r2, r3, r4⟩ := s; ⟨⟨dx, es, n, c1, c2, d, e, r1⟩, r2, r3, r4⟩
theorem CNew.sep {h₀ h h' : Heap} {X : List Addr} {T : Addr} {c : List (Int × Int)} (C : CNew h h' T c) (hX : ∀ x ∈ X, ∃ o, h.get? x = some o) (k : ∀ b o, b ∉ X → h₀.get? b = some o → h.get? b = some o) : CSep h₀ X h' T c := by
  obtain ⟨dx, es, n, a, b, d, e, r⟩ := C.ex
  have n1 : ∀ {y : Addr}, h.get? y = none → y ∉ X := fun {y} hy hm => by obtain ⟨o, ho⟩ := hX y hm; rw [hy] at ho; cases ho
  have n2 : ∀ {y : Addr}, h.get? y = none → h₀.get? y = none := fun {y} hy => by
    cases q : h₀.get? y with
    | none => rfl
    | some o => rw [k y o (n1 hy) q] at hy; cases hy
  exact ⟨dx, es, n, n1 a, n1 b, n2 a, n2 b, d, e, r, C.sys, C.nodup, C.small⟩
section
variable {prog : Program} {w : World} {A : Around} {E : Value → Shared → Prop} {env : Env} {s : Shared}
/-- a list comprehension that makes a Counter of each item of a list -/
theorem ctrComp {elt iter : Expr} {x : Str} {px : Pos} {scope : Scope} {cl : List (Str × Addr)} {pos : Pos} {Q : Value → Shared → Prop} (hh : A.handled = none)
    (hclos : closureFor scope env = pure cl) (hcell : ∀ y ∈ scope.names, y.2 ≠ .cell) (hkind : scope.kind = .function)
    (hnames : ∀ y ∈ scope.names, y.2 = .local → scope.names.lookup y.1 = some .local) (hx : scope.names.lookup x = some .local)
    (h : wpAny (model prog w) A (eval iter env) (fun xv s₁ => ∃ (l : Addr) (vs : List Value) (f : Nat → List (Int × Int)), xv = .ref l ∧ s₁.heap.IsList l vs.toArray ∧ vs.length ≤ 100 ∧
      (∀ C i v s₃ m₃ E', vs[i]? = some v → s₃.heap.Ns C m₃ → m₃ x = some v → (∀ b o, s₁.heap.get? b = some o → s₃.heap.get? b = some o) →
        wpAny (model prog w) A (eval elt (compEnvC scope cl C env)) (fun y s₄ => (∃ T, y = .ref T ∧ CNew s₃.heap s₄.heap T (f i)) ∧ Keeps s₃ s₄) E' s₃) ∧
      (∀ (D : Addr) (h' : Heap) (tk : Nat) (ts : List Addr), s₁.heap.get? D = none → h'.IsList D (ts.map Value.ref).toArray → ts.length = vs.length → (∀ j T, ts[j]? = some T → CNew s₁.heap h' T (f j)) → (∀ b o, s₁.heap.get? b = some o → h'.get? b = some o) →
        Q (.ref D) { s₁ with heap := h', toks := tk })) E s)
    (hs : ∀ x, foldedSetIterable iter env x = pure x := by intro _; rfl) :
    wpAny (model prog w) A (eval (.ListComp elt [⟨.Name x px, iter, [], 0⟩] scope pos) env) Q E s := by
  rw [eval_ListComp]
  refine wpAny_comprehension_free (use := none) rfl hs hclos hkind hnames (wpAny_mono h (fun xv s₁ h₁ => ?_) fun _ _ e => e)
  obtain ⟨l, vs, f, rfl, hl, hlen, helt, hQ⟩ := h₁
  have hllt : l < s₁.heap.objs.size := let ⟨_, e, _⟩ := hl; Heap.lt_size e
  refine wpAny_pyIter_list hl ?_
  generalize hI : s₁.heap.objs.size = I
  generalize hio : ({ cls := .type "list_iterator", data := .fields #[.ref l, .int 0 0] } : Obj) = io
  have hlI : l ≠ I := by subst hI; exact Nat.ne_of_lt hllt
  have W : Walks prog w A I [I, l] [I] vs.toArray.size _ _ := Walks.list hh I l hlI vs.toArray
  have old : ∀ b o, s₁.heap.get? b = some o → b < I := fun b o e => by subst hI; exact Heap.lt_size e
  refine wpAny_newObj_type (wpAny_newFunctionEnv hcell (by intro y hy; simp at hy) (fun h₁ hns₁ hsb₁ => ?_) hkind)
  dsimp only at hns₁ hsb₁ ⊢
  generalize hD0 : (s₁.heap.push io).objs.size = D at hns₁ hsb₁ ⊢
  generalize hH : (s₁.heap.push io).push { cls := .type "list", dict := none, data := .seq ([] : List Value).toArray } = H at hns₁ hsb₁ ⊢
  generalize hC0 : H.objs.size = C at hns₁ hsb₁ ⊢
  have hDI : D = I + 1 := by subst hD0 hI; exact Heap.size_push ..
  have hCD : C = D + 1 := by subst hC0 hH hD0; exact Heap.size_push ..
  have lt1 : (I : Nat) < D := by rw [hDI]; exact Nat.lt_succ_self _
  have lt2 : (D : Nat) < C := by rw [hCD]; exact Nat.lt_succ_self _
  have gI : H.get? I = some io := by subst hH; exact Heap.get?_push_of_some _ (by subst hI; exact Heap.get?_push_size _ (by subst hio; rfl))
  have gD : H.get? D = some { cls := .type "list", dict := none, data := .seq ([] : List Value).toArray } := by subst hH hD0; exact Heap.get?_push_size _ rfl
  have gO : ∀ b o, s₁.heap.get? b = some o → H.get? b = some o := fun b o e => by subst hH; exact Heap.get?_push_of_some _ (Heap.get?_push_of_some _ e)
  have up : ∀ b o, b ≠ C → H.get? b = some o → h₁.get? b = some o := fun b o hb e => hsb₁.extBut b o hb (Heap.get?_push_of_some _ e)
  have oldC : ∀ b o, s₁.heap.get? b = some o → b ≠ C ∧ b ≠ D ∧ b ≠ I := fun b o e =>
    ⟨Nat.ne_of_lt (Nat.lt_trans (old b o e) (Nat.lt_trans lt1 lt2)), Nat.ne_of_lt (Nat.lt_trans (old b o e) lt1), Nat.ne_of_lt (old b o e)⟩
  have nCD : D ≠ C := Nat.ne_of_lt lt2
  have nCI : I ≠ C := Nat.ne_of_lt (Nat.lt_trans lt1 lt2)
  have nDI : I ≠ D := Nat.ne_of_lt lt1
  have hlC := oldC l _ hl.choose_spec.1
  have hst₁ : h₁.IsListIter I l 0 ∧ h₁.IsList l vs.toArray := by
    obtain ⟨ol, hol, r⟩ := hl
    exact ⟨⟨io, up I io nCI gI, by subst hio; rfl, by subst hio; rfl⟩, ⟨ol, up l ol hlC.1 (gO l ol hol), r⟩⟩
  have hacc : h₁.PlainList D (([] : List Addr).map Value.ref).toArray := ⟨_, up D _ nCD gD⟩
  have loop : codeAny (model prog w) A (.compLoop (.ListComp elt [⟨.Name x px, iter, [], 0⟩] scope pos) 0 (.ref I) (.ref D) (compEnvC scope cl C env))
      (compPost (model prog w) A E none Q (.ref D) C) { s₁ with heap := h₁, toks := s₁.toks + ([] : List (Str × Value)).length } := by
    refine codeAny_compLoop_tests
      (fun k s' => ∃ (h' : Heap) (tk : Nat) (m' : Str → Option Value) (ts : List Addr), s' = { s₁ with heap := h', toks := tk } ∧ (h'.IsListIter I l ts.length ∧ h'.IsList l vs.toArray) ∧ h'.PlainList D (ts.map Value.ref).toArray ∧ h'.Ns C m' ∧ (∀ j T, ts[j]? = some T → CSep s₁.heap [C, D, I] h' T (f j)) ∧
        ts.length ≤ vs.length ∧ k = vs.length + 1 - ts.length ∧ (∀ b o, s₁.heap.get? b = some o → h'.get? b = some o)) ?_ (vs.length + 1)
      ⟨h₁, _, _, [], rfl, hst₁, hacc, hns₁, fun _ _ e => by simp at e, Nat.zero_le _, rfl, fun b o e => up b o (oldC b o e).1 (gO b o e)⟩
    rintro k s' ⟨h', tk, m', ts, rfl, hst, hpl, hns, hts, hle, rfl, hk⟩
    by_cases hlt : ts.length < vs.length
    · refine W.item ts.length _ _ _ (by simpa using hlt) hst fun v h₂ tk₂ hP hst₂ hk₂ => ?_
      have k2 : ∀ b o, b ≠ I → h'.get? b = some o → h₂.get? b = some o := fun b o hb e => hk₂ b o (by simpa using hb) e
      obtain ⟨oC, _, _, goC, _⟩ := id hns
      refine wpAny_assign_Name (wpAny_storeName_local (lookup_relabel_local hx) (hns.at' fun o e => k2 C o (Ne.symm nCI) e) (fun h₃ hn₃ hs₃ => ?_) (by simp [compEnvC, relabel, hkind]))
      have k3 : ∀ b o, b ≠ I → b ≠ C → h'.get? b = some o → h₃.get? b = some o := fun b o hb hb2 e => hs₃.extBut b o hb2 (k2 b o hb e)
      refine wpAny_pure ?_
      rw [if_pos rfl]
      have hst₃ := W.frame _ _ h₃ hst₂ fun b hb o e => hs₃.extBut b o (by
        rcases List.mem_cons.mp hb with rfl | hb
        · exact nCI
        · rw [List.mem_singleton.mp hb]; exact hlC.1) e
      have hvi : vs[ts.length]? = some v := by simpa using hP
      refine wpAny_mono (helt C ts.length v _ _ _ hvi hn₃ (by simp) fun b o e => k3 b o (oldC b o e).2.2 (oldC b o e).1 (hk b o e)) ?_ fun _ _ e => e
      rintro y s₄ ⟨⟨T, rfl, hT⟩, h₄, tk₄, rfl, hk₄⟩
      dsimp only at hT hk₄
      have hpl₄ : h₄.PlainList D (ts.map Value.ref).toArray := hpl.at fun o e => hk₄ _ _ (k3 D o (Ne.symm nDI) nCD e)
      refine wpAny_list_append_plain (s := { s₁ with heap := h₄, toks := tk₄ }) hpl₄ (fun h₅ hpl₅ hs₅ => ?_) (by rw [sizeLine_eq, List.size_toArray, List.length_map]; omega)
      have k5 : ∀ b o, b ∉ [C, D, I] → h'.get? b = some o → h₅.get? b = some o := fun b o hb e => by
        simp only [List.mem_cons, List.not_mem_nil, or_false, not_or] at hb
        exact hs₅.extBut b o hb.2.1 (hk₄ b o (k3 b o hb.2.2 hb.1 e))
      have k35 : ∀ b o, b ≠ D → h₃.get? b = some o → h₅.get? b = some o := fun b o hb e => hs₅.extBut b o hb (hk₄ b o e)
      have hTs : CSep s₁.heap [C, D, I] h₅ T (f ts.length) := by
        refine CSep.keep (hT.sep ?_ fun b o hb e => ?_) fun b o hb e => ?_
        · intro z hz
          simp only [List.mem_cons, List.not_mem_nil, or_false] at hz
          rcases hz with rfl | rfl | rfl
          · obtain ⟨o, _, _, e, _⟩ := hn₃; exact ⟨o, e⟩
          · obtain ⟨n, e⟩ := hpl; exact ⟨_, k3 _ _ (Ne.symm nDI) nCD e⟩
          · obtain ⟨⟨o, e, _⟩, _⟩ := hst₃; exact ⟨o, e⟩
        · exact k3 b o (oldC b o e).2.2 (oldC b o e).1 (hk b o e)
        · simp only [List.mem_cons, List.not_mem_nil, or_false, not_or] at hb
          exact hs₅.extBut b o hb.2.1 e
      refine ⟨vs.length + 1 - (ts ++ [T]).length, by simp; omega, h₅, tk₄, _, ts ++ [T], rfl, ?_, by simpa using hpl₅, (hn₃.keeps hk₄).sameBut hs₅ (Ne.symm nCD), ?_, by simp; omega, rfl, fun b o e => k5 b o (by simp only [List.mem_cons, List.not_mem_nil, or_false, not_or]; exact oldC b o e) (hk b o e)⟩
      · have := W.frame _ _ h₅ hst₃ fun b hb o e => k35 b o (by
          rcases List.mem_cons.mp hb with rfl | hb
          · exact nDI
          · rw [List.mem_singleton.mp hb]; exact hlC.2.1) e
        simpa using this
      · intro j T' hj
        rcases Nat.lt_trichotomy j ts.length with hj1 | hj1 | hj1
        · rw [List.getElem?_append_left hj1] at hj
          exact (hts j T' hj).keep k5
        · subst hj1; simp at hj; subst hj; exact hTs
        · rw [List.getElem?_eq_none (by simp; omega)] at hj; cases hj
    · have hin : ts.length = vs.length := by omega
      have hst' := hst
      rw [hin] at hst'
      refine W.done _ _ _ (by simpa using hst') fun h₂ tk₂ hk₂ => ?_
      have k2 : ∀ b o, b ≠ I → h'.get? b = some o → h₂.get? b = some o := fun b o hb e => hk₂ b o (by simpa using hb) e
      refine ⟨m', hns.at' fun o e => k2 C o (Ne.symm nCI) e, fun h'' hs'' => ?_⟩
      have k4 : ∀ b o, b ≠ I → b ≠ C → h'.get? b = some o → h''.get? b = some o := fun b o h1 h2 e => hs''.extBut b o h2 (k2 b o h1 e)
      refine hQ D h'' tk₂ ts ?_ (hpl.at fun o e => k4 _ _ (Ne.symm nDI) nCD e).isList hin (fun j T hj => ((hts j T hj).keep fun b o hb e => k4 b o (fun z => hb (by simp [z])) (fun z => hb (by simp [z])) e).new) fun b o e => k4 b o (oldC b o e).2.2 (oldC b o e).1 (hk b o e)
      exact Heap.get?_none_of_le (by rw [hI]; exact Nat.le_of_lt lt1)
  exact codeAny_compStart_list loop (W.self 0 _ _ _ hst₁ loop)
end

end

open PySem PySem.W PySem.Calls PyProof.Rows
local macro_rules | `(tactic| walk_at "eval Call Attribute") => `(tactic| (k_here; (with_reducible show wpAny _ _ (eval (Expr.Call (Expr.Attribute _ _ _) [Expr.Starred _ _] [] _) _) _ _ _); refine starCall ?_))
local macro_rules | `(tactic| walk_at "callWith ref") => `(tactic| (k_here; (with_reducible show wpAny _ _ (callWith _ (Value.ref _) _ (backTo _ (starEach [Expr.Starred _ _] _)) []) _ _ _); k_dflt (first
  | (refine' callWith_S ?k1 ?k2 ?_; (case k1 => k_asm); (case k2 => k_is); k_whole)
  | (refine' callWith_SM ?k1 ?k2 ?k3 ?k4 ?_; (case k1 => k_asm); (case k2 => k_asm); (case k3 => k_mem); (case k4 => k_is); k_whole))))

section
open PySem PySem.W PySem.Calls PyProof.Rows
set_option maxHeartbeats 4000000
local macro_rules | `(tactic| k_is) => `(tactic| with_reducible assumption)
local macro_rules | `(tactic| k_get) => `(tactic| with_reducible assumption)
theorem gives_seqs2 {prog : Program} {w : World} {A : Around} {p : Program} {loose : List Str} {mg mb : Str → Option Value} {s : Shared} {x dx C r1 r2 : Addr} {es : List DictEntry} {n : Nat} {b : Bool}
    (X : (hd.heap_39 w.params).In s.heap) (T : TopRead p loose mg mb s.heap) (hA : A.handled = none) (hd : A.depth + 10 < recursionLimit) (hu : A.units + 40 < cLine)
    (M : Meas s.heap x dx C es n) (K : MK w b C es) : CodeL (model prog w) A s (.call (.ref 165) ⟨[.ref x, .ref r1, .ref r2], []⟩) [.ref r1, .ref r2] := by
  intro Q E hQ

  walk_at "m_enterVC"
  intro D L' h₁ tk cells F N Y hab hDL
  k_cells Y
  rename_i o' d'
  replace N : News s.heap L' h₁ [(D, tupO [.ref r1, .ref r2]), (L' + 1, o')] := N
  replace d' : o'.data = .cell (some (.ref x)) := d'
  obtain ⟨q1, q2, q3, tq, q4⟩ := K.qval
  (
    k_steps
    (with_reducible rename Fr _ _ _ _ => Fz)
    (with_reducible rename News _ _ _ _ => Nz)
    exact hQ _ _ _ Fz.keep (Nz _ (.head _)).2.2 ⟨_, Nz.get (.head _), rfl, _, rfl⟩)
theorem gives_seqs3 {prog : Program} {w : World} {A : Around} {p : Program} {loose : List Str} {mg mb : Str → Option Value} {s : Shared} {x dx C r1 r2 r3 : Addr} {es : List DictEntry} {n : Nat} {b : Bool}
    (X : (hd.heap_39 w.params).In s.heap) (T : TopRead p loose mg mb s.heap) (hA : A.handled = none) (hd : A.depth + 10 < recursionLimit) (hu : A.units + 40 < cLine)
    (M : Meas s.heap x dx C es n) (K : MK w b C es) : CodeL (model prog w) A s (.call (.ref 165) ⟨[.ref x, .ref r1, .ref r2, .ref r3], []⟩) [.ref r1, .ref r2, .ref r3] := by
  intro Q E hQ

  walk_at "m_enterVC"
  intro D L' h₁ tk cells F N Y hab hDL
  k_cells Y
  rename_i o' d'
  replace N : News s.heap L' h₁ [(D, tupO [.ref r1, .ref r2, .ref r3]), (L' + 1, o')] := N
  replace d' : o'.data = .cell (some (.ref x)) := d'
  obtain ⟨q1, q2, q3, tq, q4⟩ := K.qval
  (
    k_steps
    (with_reducible rename Fr _ _ _ _ => Fz)
    (with_reducible rename News _ _ _ _ => Nz)
    exact hQ _ _ _ Fz.keep (Nz _ (.head _)).2.2 ⟨_, Nz.get (.head _), rfl, _, rfl⟩)

end

section
open PySem PySem.W PySem.Calls PyProof.Rows
set_option maxHeartbeats 4000000
theorem kt_74 (w : World) : typeIn (KF w) (.ref 74) = some (.type "type") := by kernel_rfl
theorem ks_tup (w : World) : subIn (KF w) (.type "tuple") (.ref 74) = some false := by kernel_rfl
theorem ks_ty (w : World) : subIn (KF w) (.type "type") (.type "type") = some true := by kernel_rfl
theorem kg_ctr (w : World) : nsIn (KF w) mainGlobals "Counter" = some (some (.ref 74)) := by kernel_rfl
theorem kg_isi (w : World) : nsIn (KF w) mainGlobals "isinstance" = some none := by kernel_rfl
theorem sub_type_type : isSubtype (.type "type") (.type "type") = pure true := by rw [isSubtype_type]; kernel_rfl
section
variable {M : Model} {prog : Program} {w : World} {A : Around} {E : Value → Shared → Prop} {env : Env} {s : Shared} {scope : Scope} {cl : List (Str × Addr)} {C c d r : Addr} {m mg mb : Str → Option Value} {x : Str} {pos : Pos} {v : Value} {o : Obj} {p : Program} {loose : List Str} {code : Value} {vs : List Value} {t : Tok}
theorem nm_global {Q : Value → Shared → Prop} (X : (hd.heap_39 w.params).In s.heap) (T : TopRead p loose mg mb s.heap) (e : nsIn (hd.heap_39 w.params) mainGlobals x = some (some v)) (h : Q v s)
    (hg : env.globals = mainGlobals := by rfl) (hk : (compEnvC scope cl C env).scope.kind = .function := by rfl) (hl : (compEnvC scope cl C env).kindOf x = some .globalImplicit := by rfl) (hb : (x == ("__debug__" : Str)) = false := by decide) :
    wpAny M A (eval (.Name x pos) (compEnvC scope cl C env)) Q E s :=
  Name_function_global hk hl (loadGlobal_global (env := compEnvC scope cl C env) (by show s.heap.Ns env.globals mg; rw [hg]; exact T.g) (mg_of X T.g e) h) hb
theorem gm_local {Q : Value → Shared → Prop} (hn : s.heap.Ns C m) (hv : m x = some v) (h : Q v s) (hk : (genEnv scope cl C code builtinsNs env).scope.kind = .function := by rfl) (hl : (genEnv scope cl C code builtinsNs env).kindOf x = some .local := by rfl) (hd : (x == ("__debug__" : Str)) = false := by decide) :
    wpAny M A (eval (.Name x pos) (genEnv scope cl C code builtinsNs env)) Q E s := wpAny_Name (wpAny_loadName_local hk hl hn hv h) hd
theorem gm_global {Q : Value → Shared → Prop} (X : (hd.heap_39 w.params).In s.heap) (T : TopRead p loose mg mb s.heap) (e : nsIn (hd.heap_39 w.params) mainGlobals x = some (some v)) (h : Q v s)
    (hg : env.globals = mainGlobals := by rfl) (hk : (genEnv scope cl C code builtinsNs env).scope.kind = .function := by rfl) (hl : (genEnv scope cl C code builtinsNs env).kindOf x = some .globalImplicit := by rfl) (hb : (x == ("__debug__" : Str)) = false := by decide) :
    wpAny M A (eval (.Name x pos) (genEnv scope cl C code builtinsNs env)) Q E s :=
  Name_function_global hk hl (loadGlobal_global (env := genEnv scope cl C code builtinsNs env) (by show s.heap.Ns env.globals mg; rw [hg]; exact T.g) (mg_of X T.g e) h) hb
theorem gm_builtin {Q : Value → Shared → Prop} (X : (hd.heap_39 w.params).In s.heap) (T : TopRead p loose mg mb s.heap) (e : nsIn (hd.heap_39 w.params) mainGlobals x = some none) (hv : bootBuiltins x = some v) (hn : x ≠ "__name__") (h : Q v s)
    (hg : env.globals = mainGlobals := by rfl) (hk : (genEnv scope cl C code builtinsNs env).scope.kind = .function := by rfl) (hl : (genEnv scope cl C code builtinsNs env).kindOf x = some .globalImplicit := by rfl) (hb : (x == ("__debug__" : Str)) = false := by decide) :
    wpAny M A (eval (.Name x pos) (genEnv scope cl C code builtinsNs env)) Q E s :=
  Name_function_global hk hl (loadGlobal_builtin (env := genEnv scope cl C code builtinsNs env) (by show s.heap.Ns env.globals mg; rw [hg]; exact T.g) (mg_none_of X T.g e) T.b ((T.builtins x hn).trans hv) h) hb
/-- a tuple is no Counter -/
theorem isi_tup {Q : Value → Shared → Prop} (X : (hd.heap_39 w.params).In s.heap) (ht : s.heap.IsTuple r vs.toArray) (h : ∀ tk, Q (.bool false) { s with toks := tk }) : wpAny (model prog w) A (call (.builtin "isinstance") [.ref r, .ref 74]) Q E s := by
  refine call_isinstance_of ?_ (by intro e; cases e)
  obtain ⟨o, ho, hc, _⟩ := ht
  obtain ⟨hh, g, dr, tt, os⟩ := s
  have t1 : Looks (model prog w) hh (typeOf (.ref r)) (.type "tuple") := hc ▸ (Looks.ld ho).andThen .now
  have t2 : Looks (model prog w) hh (typeOf (.ref 74)) (.type "type") := looks_typeIn X (kt_74 w)
  have L3 : Looks (model prog w) hh (isInstance (.ref r) (.ref 74)) false := t1.andThen (looks_subIn X (ks_tup w))
  have L4 : Looks (model prog w) hh (isInstance (.ref 74) (.type "type")) true := t2.andThen (looks_subIn X (ks_ty w))
  have L5 : Looks (model prog w) hh (isSubtype (.type "tuple") (.ref 74)) false := looks_subIn X (ks_tup w)
  unfold Builtin.«isinstance.nested»
  refine wpAny_bind (t1.at ?_)
  rw [if_neg (by decide)]
  refine wpAny_bind (t2.at ?_)
  rw [if_pos (by decide)]
  k_delta "plainIsInstance"
  obtain ⟨⟨oc, od, cd, sl, hC, _⟩, _⟩ := makesD_of (M := model prog w) X
  dsimp only at hC
  unfold isType
  have L6 : ∀ (Q : Option Value → Shared → Prop) (E : Value → Shared → Prop) (A : Around), Q (some (.type "tuple")) ⟨hh, g, dr, tt + 1, os⟩ → wpAny (model prog w) A (getAttr? (.ref r) "__class__") Q E ⟨hh, g, dr, tt, os⟩ := fun Q E A q => class_attr_tuple ho hc q
  refine wpAny_bind ?_
  refine wpAny_bind ?_
  refine wpAny_bind ?_
  refine wpAny_loadPart hC ?_
  refine wpAny_pure ?_
  rw [if_neg (by simp)]
  refine wpAny_bind (L3.at ?_)
  rw [if_neg (by decide)]
  refine wpAny_bind (L6 _ _ _ ?_)
  dsimp only
  refine wpAny_bind (wpAny_pure ?_)
  rw [if_neg (by decide)]
  refine wpAny_bind (wpAny_rule ?_)
  refine L5.at ?_
  exact wpAny_pure (h _)
end

end

open PySem PySem.W PySem.Calls PyProof.Rows
local macro_rules | `(tactic| walk_at "eval Name") => `(tactic| (k_here; (with_reducible show wpAny _ _ (eval (Expr.Name _ _) (genEnv _ _ _ _ _ _)) _ _ _); k_dflt (first
  | (refine' gm_local ?n ?v ?_; (case n => assumption); (case v => assumption))
  | (refine' gm_builtin ?X ?T ?e ?v ?n ?_; (case X => assumption); (case T => assumption); (case e => k_is); (case v => boot_by_name); (case n => decide))
  | (refine' gm_global ?X ?T ?e ?_; (case X => assumption); (case T => assumption); (case e => k_is)))))
local macro_rules | `(tactic| walk_at "eval Name") => `(tactic| (k_here; (with_reducible show wpAny _ _ (eval (Expr.Name _ _) (compEnvC _ _ _ _)) _ _ _); k_dflt (first
  | (refine' nm_local ?n ?v ?_; (case n => assumption); (case v => assumption))
  | (refine' nm_cell ?c ?o ?d ?_; (case c => exact rfl); (case o => assumption); (case d => assumption))
  | (refine' nm_builtin ?X ?T ?e ?v ?n ?_; (case X => assumption); (case T => assumption); (case e => k_is); (case v => boot_by_name); (case n => decide))
  | (refine' nm_global ?X ?T ?e ?_; (case X => assumption); (case T => assumption); (case e => k_is)))))
local macro_rules | `(tactic| walk_at "call builtin:isinstance") => `(tactic| (k_here; (with_reducible show wpAny _ _ (call _ [Value.ref _, Value.ref _]) _ _ _); refine' isi_tup ?X ?t ?_; (case X => assumption); (case t => assumption); intro tk'))
local macro_rules | `(tactic| walk_at "eval ListComp") => `(tactic| (k_here; (with_reducible show wpAny _ _ (eval (Expr.ListComp (Expr.Call (Expr.Name (PySem.Str.ofString "Counter") _) _ _ _) _ _ _) _) _ _ _); refine' ctrComp ?hh ?c1 ?c2 ?c3 ?c4 ?c5 ?_ ?c6; (case hh => k_dflt walk_at "m_hand"); (case c1 => k_dflt exact rfl); (case c2 => k_dflt decide); (case c3 => k_dflt exact rfl); (case c4 => k_dflt decide); (case c5 => k_dflt exact rfl); (case c6 => k_dflt (intro _; rfl))))

section
open PySem PySem.W PySem.Calls PyProof.Rows
set_option maxHeartbeats 4000000
local macro_rules | `(tactic| k_is) => `(tactic| with_reducible assumption)
local macro_rules | `(tactic| k_get) => `(tactic| with_reducible assumption)
local macro_rules | `(tactic| walk_at "call ref cons nil") => `(tactic| (k_here; (with_reducible show wpAny _ _ (call (Value.ref _) _ _) _ _ _); refine Halt.out ?_))
local macro_rules | `(tactic| walk_at "call builtin:all cons nil") => `(tactic| (k_here; (with_reducible show wpAny _ _ (call (Value.builtin "all") [Value.ref _] _) _ _ _); refine Halt.out ?_))
local macro_rules | `(tactic| walk_at "call builtin:sum cons nil") => `(tactic| (k_here; (with_reducible show wpAny _ _ (call (Value.builtin "sum") [Value.ref _] _) _ _ _); refine Halt.out ?_))
local macro_rules | `(tactic| walk_at "eval GeneratorExp Call cons") => `(tactic| (k_here; (with_reducible show wpAny _ _ (eval (Expr.GeneratorExp _ _ _ _) _) _ _ _); refine Halt.out ?_))
local macro_rules | `(tactic| walk_at "binaryOp Div int int") => `(tactic| (k_here; (with_reducible show wpAny _ _ (binaryOp Operator.Div _ _) _ _ _); refine Halt.out ?_))
local macro_rules | `(tactic| walk_at "binaryOp Div float int") => `(tactic| (k_here; (with_reducible show wpAny _ _ (binaryOp Operator.Div _ _) _ _ _); refine Halt.out ?_))
local macro_rules | `(tactic| walk_at "binaryOp Mult float int") => `(tactic| (k_here; (with_reducible show wpAny _ _ (binaryOp Operator.Mult (Value.float _ _) _) _ _ _); refine Halt.out ?_))
local macro_rules | `(tactic| walk_at "call builtin:min cons nil") => `(tactic| (k_here; (with_reducible show wpAny _ _ (call (Value.builtin "min") [Value.ref _] _) _ _ _); refine Halt.out ?_))
/-- the tree ends with P; what stood stands but the tables -/
def CodeS (M : Model) (A : Around) (s : Shared) (t : Code) (P : Value → Heap → Prop) : Prop :=
  ∀ (Q E : Value → Shared → Prop), (∀ v s', s'.os = s.os → AllBare s'.gens → Soft s.heap s'.heap → Tabs s'.heap → P v s'.heap → Q v s') → codeAny M A t (RQ Q E) s
/-- a row: a tuple of ints -/
def RowAt (h : Heap) (r : Addr) (ns : List Int) : Prop := ∃ vs, h.IsTuple r vs.toArray ∧ IntsAre vs ns
theorem RowAt.keep {h h' : Heap} {r : Addr} {ns : List Int} (R : RowAt h r ns) (k : ∀ b o, h.get? b = some o → h'.get? b = some o) : RowAt h' r ns :=
  let ⟨vs, ⟨o, a, b⟩, i⟩ := R; ⟨vs, ⟨o, k _ _ a, b⟩, i⟩
theorem RowAt.soft {h h' : Heap} {r : Addr} {ns : List Int} (R : RowAt h r ns) (s : Soft h h') (t : Tabs h) : RowAt h' r ns := by
  obtain ⟨vs, ⟨o, a, b, c⟩, i⟩ := R
  exact ⟨vs, ⟨o, s.cls t a (by rw [b]; exact fun e => by cases e), b, c⟩, i⟩
theorem CNew.soft {h₀ h₁ h' : Heap} {x : Addr} {c : List (Int × Int)} (C : CNew h₁ h' x c) (s : Soft h₀ h₁) (t : Tabs h₁) : CNew h₀ h' x c :=
  let ⟨dx, es, n, a, b, r⟩ := C.ex; ⟨⟨dx, es, n, s.none t a, s.none t b, r⟩, C.sys, C.nodup, C.small⟩
theorem gives_ctrs2 {prog : Program} {w : World} {A : Around} {p : Program} {loose : List Str} {mg mb : Str → Option Value} {bm : Addr} {ob : Obj} {s : Shared} {x dx C r1 r2 : Addr} {es : List DictEntry} {n : Nat} {b : Bool} {n1 n2 : List Int}
    (B : Bas w p loose mg mb bm ob s.heap) (hG : AllBare s.gens) (hA : A.handled = none) (hd : A.depth + 20 < recursionLimit) (hu : A.units + 90 < cLine)
    (M : Meas s.heap x dx C es n) (K : MK w b C es) (R1 : RowAt s.heap r1 n1) (R2 : RowAt s.heap r2 n2) (hz1 : n1.length ≤ 100) (hz2 : n2.length ≤ 100) :
    CodeS (model prog w) A s (.call (.ref 170) ⟨[.ref x, .ref r1, .ref r2], []⟩) (fun v h => ∃ l t1 t2, v = .ref l ∧ h.IsList l #[.ref t1, .ref t2] ∧ s.heap.get? l = none ∧ CNew s.heap h t1 (cnt n1) ∧ CNew s.heap h t2 (cnt n2)) := by
  intro Q E hQ
  obtain ⟨q1, q2, q3, q4⟩ := K.seqs
  have X := B.X
  have T := B.T
  walk_at "m_enterV"
  intro D L' h₁ tk F N hDL
  replace N : News s.heap L' h₁ [(D, tupO [.ref r1, .ref r2])] := N
  k_steps
  all_goals (try (with_reducible show Halt (wpAny _ _ _ _ _ _); refine Halt.mk ?_))
  have B1 := B.keep F.keep
  refine gen_all (vs := [.ref r1, .ref r2]) (q := fun _ => false) B1 hG rfl rfl (by walk_at "m_hand") rfl rfl (by decide) rfl rfl rfl (by k_room) ⟨_, N.get (.head _), rfl, 0, rfl⟩ ?_ ?_ ?_ (by intro _; rfl)
  · intro Q' E' q
    k_steps
    all_goals (try (with_reducible show Halt (wpAny _ _ _ _ _ _); refine Halt.mk ?_))
    exact q
  · intro A' E' code C i v s₂ m₂ hA' hvi hn hm sf
    have X2 := sf.frag B1.X
    have T2 := sf.top B1.t B1.T
    have hr : ∃ (r : Addr) (vs : List Value), v = .ref r ∧ s₂.heap.IsTuple r vs.toArray := by
      rcases i with _ | _ | i
      · cases hvi; obtain ⟨vs, e, _⟩ := (R1.keep F.keep).soft sf B1.t; exact ⟨_, vs, rfl, e⟩
      · cases hvi; obtain ⟨vs, e, _⟩ := (R2.keep F.keep).soft sf B1.t; exact ⟨_, vs, rfl, e⟩
      · cases hvi
    obtain ⟨r, vs, rfl, ht⟩ := hr
    k_steps
    all_goals (try (with_reducible show Halt (wpAny _ _ _ _ _ _); refine Halt.mk ?_))
    exact ⟨_, _, rfl, fun _ _ e => e⟩
  · intro a s₁ hos sf t1 hall
    have X1 := sf.frag B1.X
    k_steps
    all_goals (try (with_reducible show Halt (wpAny _ _ _ _ _ _); refine Halt.mk ?_))
    refine hall _ _ ?_
    intro s' hos' hG' sf' t'
    obtain ⟨h₀, sf0, tb0, F', hN, _⟩ := rebase B.t F sf' t'
    have N' := hN _ N
    have B0 := B.soft sf0 tb0
    have X0 := B0.X
    have T0 := B0.T
    have M0 := sf0.meas B.t M
    have R10 := R1.soft sf0 B.t
    have R20 := R2.soft sf0 B.t
    clear F N hN X T X1 hall
    rw [show (List.range (List.length [Value.ref r1, Value.ref r2])).all (fun _ => false) = false from rfl]
    k_steps
    all_goals (try (with_reducible show Halt (wpAny _ _ _ _ _ _); refine Halt.mk ?_))
    (
      k_steps
      all_goals (try (with_reducible show Halt (wpAny _ _ _ _ _ _); refine Halt.mk ?_))
      (with_reducible rename Fr _ _ _ _ => Fz)
      (with_reducible rename News _ _ _ _ => Nz)
      refine call_bound Nz (.head _) (gives_seqs2 (X0.keeps Fz.keep) (T0.keeps Fz.keep) (by walk_at "m_hand") (by k_room) (by walk_at "m_units") (M0.keep Fz.keep) K _ _ ?_)
      intro l h' tk' k hl hL
      have kk : ∀ b o, h₀.get? b = some o → h'.get? b = some o := fun b o e => k b o (Fz.keep b o e)
      refine ⟨l, [.ref r1, .ref r2], fun i => if i = 0 then cnt n1 else cnt n2, rfl, hL, by simp, ?_, ?_⟩
      · intro C i v s₃ m₃ E' hvi hn hm hkeep
        have X3 := (X0.keeps kk).keeps hkeep
        have T3 := (T0.keeps kk).keeps hkeep
        have hr : ∃ (r : Addr) (vs : List Value) (ns : List Int), v = .ref r ∧ s₃.heap.IsTuple r vs.toArray ∧ IntsAre vs ns ∧ ns.length ≤ 100 ∧ cnt ns = (if i = 0 then cnt n1 else cnt n2) := by
          rcases i with _ | _ | i
          · cases hvi; obtain ⟨vs, e, hi⟩ := (R10.keep kk).keep hkeep; exact ⟨_, vs, n1, rfl, e, hi, hz1, rfl⟩
          · cases hvi; obtain ⟨vs, e, hi⟩ := (R20.keep kk).keep hkeep; exact ⟨_, vs, n2, rfl, e, hi, hz2, rfl⟩
          · cases hvi
        obtain ⟨r, vs, ns, rfl, ht, hi, hz, hc⟩ := hr
        show wpAny _ _ _ (fun y s₄ => (∃ T, y = Value.ref T ∧ CNew s₃.heap s₄.heap T (if i = 0 then cnt n1 else cnt n2)) ∧ Keeps s₃ s₄) _ _
        rw [← hc]
        k_steps
        all_goals (try (with_reducible show Halt (wpAny _ _ _ _ _ _); refine Halt.mk ?_))
        refine use_gives (gives_tuple X3 T3 (by walk_at "m_hand") (by k_room) (by walk_at "m_units") ht hi (Nat.le_trans hz (by decide))) ?_
        intro T h'' tk'' kT CT
        exact ⟨⟨T, rfl, CT⟩, _, _, rfl, kT⟩
      · intro D' h'' tk'' ts hD hL' hlen hts hk''
        k_steps
        all_goals (try (with_reducible show Halt (wpAny _ _ _ _ _ _); refine Halt.mk ?_))
        have hk2 : ∀ b o, h₀.get? b = some o → h''.get? b = some o := fun b o e => hk'' b o (kk b o e)
        obtain ⟨t1, t2, rfl⟩ : ∃ t1 t2, ts = [t1, t2] := by
          rcases ts with _ | ⟨t1, _ | ⟨t2, _ | ⟨t3, ts⟩⟩⟩ <;> simp at hlen
          exact ⟨t1, t2, rfl⟩
        exact hQ _ _ hos' hG' (sf0.then_keep hk2) (tb0.keep hk2) ⟨D', t1, t2, rfl, hL', sf0.none tb0 (get_none kk hD), ((hts 0 t1 rfl).elder kk).soft sf0 tb0, ((hts 1 t2 rfl).elder kk).soft sf0 tb0⟩)
theorem gives_ctrs3 {prog : Program} {w : World} {A : Around} {p : Program} {loose : List Str} {mg mb : Str → Option Value} {bm : Addr} {ob : Obj} {s : Shared} {x dx C r1 r2 r3 : Addr} {es : List DictEntry} {n : Nat} {b : Bool} {n1 n2 n3 : List Int}
    (B : Bas w p loose mg mb bm ob s.heap) (hG : AllBare s.gens) (hA : A.handled = none) (hd : A.depth + 20 < recursionLimit) (hu : A.units + 90 < cLine)
    (M : Meas s.heap x dx C es n) (K : MK w b C es) (R1 : RowAt s.heap r1 n1) (R2 : RowAt s.heap r2 n2) (R3 : RowAt s.heap r3 n3) (hz1 : n1.length ≤ 100) (hz2 : n2.length ≤ 100) (hz3 : n3.length ≤ 100) :
    CodeS (model prog w) A s (.call (.ref 170) ⟨[.ref x, .ref r1, .ref r2, .ref r3], []⟩) (fun v h => ∃ l t1 t2 t3, v = .ref l ∧ h.IsList l #[.ref t1, .ref t2, .ref t3] ∧ s.heap.get? l = none ∧ CNew s.heap h t1 (cnt n1) ∧ CNew s.heap h t2 (cnt n2) ∧ CNew s.heap h t3 (cnt n3)) := by
  intro Q E hQ
  obtain ⟨q1, q2, q3, q4⟩ := K.seqs
  have X := B.X
  have T := B.T
  walk_at "m_enterV"
  intro D L' h₁ tk F N hDL
  replace N : News s.heap L' h₁ [(D, tupO [.ref r1, .ref r2, .ref r3])] := N
  k_steps
  all_goals (try (with_reducible show Halt (wpAny _ _ _ _ _ _); refine Halt.mk ?_))
  have B1 := B.keep F.keep
  refine gen_all (vs := [.ref r1, .ref r2, .ref r3]) (q := fun _ => false) B1 hG rfl rfl (by walk_at "m_hand") rfl rfl (by decide) rfl rfl rfl (by k_room) ⟨_, N.get (.head _), rfl, 0, rfl⟩ ?_ ?_ ?_ (by intro _; rfl)
  · intro Q' E' q
    k_steps
    all_goals (try (with_reducible show Halt (wpAny _ _ _ _ _ _); refine Halt.mk ?_))
    exact q
  · intro A' E' code C i v s₂ m₂ hA' hvi hn hm sf
    have X2 := sf.frag B1.X
    have T2 := sf.top B1.t B1.T
    have hr : ∃ (r : Addr) (vs : List Value), v = .ref r ∧ s₂.heap.IsTuple r vs.toArray := by
      rcases i with _ | _ | _ | i
      · cases hvi; obtain ⟨vs, e, _⟩ := (R1.keep F.keep).soft sf B1.t; exact ⟨_, vs, rfl, e⟩
      · cases hvi; obtain ⟨vs, e, _⟩ := (R2.keep F.keep).soft sf B1.t; exact ⟨_, vs, rfl, e⟩
      · cases hvi; obtain ⟨vs, e, _⟩ := (R3.keep F.keep).soft sf B1.t; exact ⟨_, vs, rfl, e⟩
      · cases hvi
    obtain ⟨r, vs, rfl, ht⟩ := hr
    k_steps
    all_goals (try (with_reducible show Halt (wpAny _ _ _ _ _ _); refine Halt.mk ?_))
    exact ⟨_, _, rfl, fun _ _ e => e⟩
  · intro a s₁ hos sf t1 hall
    have X1 := sf.frag B1.X
    k_steps
    all_goals (try (with_reducible show Halt (wpAny _ _ _ _ _ _); refine Halt.mk ?_))
    refine hall _ _ ?_
    intro s' hos' hG' sf' t'
    obtain ⟨h₀, sf0, tb0, F', hN, _⟩ := rebase B.t F sf' t'
    have N' := hN _ N
    have B0 := B.soft sf0 tb0
    have X0 := B0.X
    have T0 := B0.T
    have M0 := sf0.meas B.t M
    have R10 := R1.soft sf0 B.t
    have R20 := R2.soft sf0 B.t
    have R30 := R3.soft sf0 B.t
    clear F N hN X T X1 hall
    rw [show (List.range (List.length [Value.ref r1, Value.ref r2, Value.ref r3])).all (fun _ => false) = false from rfl]
    k_steps
    all_goals (try (with_reducible show Halt (wpAny _ _ _ _ _ _); refine Halt.mk ?_))
    (
      k_steps
      all_goals (try (with_reducible show Halt (wpAny _ _ _ _ _ _); refine Halt.mk ?_))
      (with_reducible rename Fr _ _ _ _ => Fz)
      (with_reducible rename News _ _ _ _ => Nz)
      refine call_bound Nz (.head _) (gives_seqs3 (X0.keeps Fz.keep) (T0.keeps Fz.keep) (by walk_at "m_hand") (by k_room) (by walk_at "m_units") (M0.keep Fz.keep) K _ _ ?_)
      intro l h' tk' k hl hL
      have kk : ∀ b o, h₀.get? b = some o → h'.get? b = some o := fun b o e => k b o (Fz.keep b o e)
      refine ⟨l, [.ref r1, .ref r2, .ref r3], fun i => if i = 0 then cnt n1 else if i = 1 then cnt n2 else cnt n3, rfl, hL, by simp, ?_, ?_⟩
      · intro C i v s₃ m₃ E' hvi hn hm hkeep
        have X3 := (X0.keeps kk).keeps hkeep
        have T3 := (T0.keeps kk).keeps hkeep
        have hr : ∃ (r : Addr) (vs : List Value) (ns : List Int), v = .ref r ∧ s₃.heap.IsTuple r vs.toArray ∧ IntsAre vs ns ∧ ns.length ≤ 100 ∧ cnt ns = (if i = 0 then cnt n1 else if i = 1 then cnt n2 else cnt n3) := by
          rcases i with _ | _ | _ | i
          · cases hvi; obtain ⟨vs, e, hi⟩ := (R10.keep kk).keep hkeep; exact ⟨_, vs, n1, rfl, e, hi, hz1, rfl⟩
          · cases hvi; obtain ⟨vs, e, hi⟩ := (R20.keep kk).keep hkeep; exact ⟨_, vs, n2, rfl, e, hi, hz2, rfl⟩
          · cases hvi; obtain ⟨vs, e, hi⟩ := (R30.keep kk).keep hkeep; exact ⟨_, vs, n3, rfl, e, hi, hz3, rfl⟩
          · cases hvi
        obtain ⟨r, vs, ns, rfl, ht, hi, hz, hc⟩ := hr
        show wpAny _ _ _ (fun y s₄ => (∃ T, y = Value.ref T ∧ CNew s₃.heap s₄.heap T (if i = 0 then cnt n1 else if i = 1 then cnt n2 else cnt n3)) ∧ Keeps s₃ s₄) _ _
        rw [← hc]
        k_steps
        all_goals (try (with_reducible show Halt (wpAny _ _ _ _ _ _); refine Halt.mk ?_))
        refine use_gives (gives_tuple X3 T3 (by walk_at "m_hand") (by k_room) (by walk_at "m_units") ht hi (Nat.le_trans hz (by decide))) ?_
        intro T h'' tk'' kT CT
        exact ⟨⟨T, rfl, CT⟩, _, _, rfl, kT⟩
      · intro D' h'' tk'' ts hD hL' hlen hts hk''
        k_steps
        all_goals (try (with_reducible show Halt (wpAny _ _ _ _ _ _); refine Halt.mk ?_))
        have hk2 : ∀ b o, h₀.get? b = some o → h''.get? b = some o := fun b o e => hk'' b o (kk b o e)
        obtain ⟨t1, t2, t3, rfl⟩ : ∃ t1 t2 t3, ts = [t1, t2, t3] := by
          rcases ts with _ | ⟨t1, _ | ⟨t2, _ | ⟨t3, _ | ⟨t4, ts⟩⟩⟩⟩ <;> simp at hlen
          exact ⟨t1, t2, t3, rfl⟩
        exact hQ _ _ hos' hG' (sf0.then_keep hk2) (tb0.keep hk2) ⟨D', t1, t2, t3, rfl, hL', sf0.none tb0 (get_none kk hD), ((hts 0 t1 rfl).elder kk).soft sf0 tb0, ((hts 1 t2 rfl).elder kk).soft sf0 tb0, ((hts 2 t3 rfl).elder kk).soft sf0 tb0⟩)

end

section
open PySem PySem.W PySem.Calls PyProof.Rows
/-- the tree ends with P, of the value and of the number of tokens made by then -/
def CodeT (M : Model) (A : Around) (s : Shared) (t : Code) (P : Value → Nat → Prop) : Prop :=
  ∀ (Q E : Value → Shared → Prop), (∀ v s', s'.os = s.os → AllBare s'.gens → Soft s.heap s'.heap → Tabs s'.heap → P v s'.toks → Q v s') → codeAny M A t (RQ Q E) s
theorem CodeT.use {M : Model} {A : Around} {s : Shared} {f : Value} {args : List Value} {P : Value → Nat → Prop} (H : CodeT M A s (.call f ⟨args, []⟩) P) {Q E : Value → Shared → Prop}
    (h : ∀ v s2, s2.os = s.os → AllBare s2.gens → Soft s.heap s2.heap → Tabs s2.heap → P v s2.toks → Q v s2) : wpAny M A (call f args) Q E s :=
  wpAny_call (H Q E h)
/-- a float is one of the last tokens made -/
def RecT : Value → Nat → Prop
  | .float _ u, n => n ≤ u + 4
  | _, _ => True
theorem RecT.flt {x : UInt64} {u n : Nat} (h : n ≤ u + 4) : RecT (.float x u) n := h
def Late (P : Value → Nat → Prop) (v : Value) (n : Nat) : Prop := ∃ k, n ≤ k + 3 ∧ P v k
theorem wpAny_tk {α : Type} {M : Model} {A : Around} {s : Shared} {t : Sem α} {Q : α → Shared → Prop} {E : Value → Shared → Prop} (n : Nat) (hn : n ≤ s.toks)
    (h : wpAny M A t (fun a s' => n ≤ s'.toks → Q a s') E s) : wpAny M A t Q E s :=
  wpAny_mono (wpAny_toks_of hn h) (fun _ _ x => x.2 x.1) (fun _ _ x => x.2)
theorem tok_ne {t : Tok} (h : @LE.le Nat _ 1 t) : t ≠ 0 := Nat.ne_of_gt h

end

section
open PySem PySem.W PySem.Calls PyProof.Rows
set_option maxHeartbeats 4000000
/-- the slot of a table of eight without dummies -/
def slotP (P : Array Nat) (j : Nat) : SetTable.Slot := if P[SetTable.below P j]? == some j then .live (SetTable.below P j) else .empty
theorem slot_eq {t : SetTable} (hd : t.dummies = #[]) (j : Nat) : t.slot j = slotP t.place j := by
  unfold SetTable.slot slotP
  have : SetTable.has t.dummies j = false := by rw [hd]; rfl
  simp only [this]
  rfl
/-- the tables that a set of at most two elements has -/
def okP (P : Array Nat) : Bool := match P.toList with
  | [] => true
  | [a] => decide (a < 8)
  | [a, b] => decide (a < b) && decide (b < 8)
  | _ => false
def hits (P : Array Nat) : Nat → Nat → Nat → Bool
  | 0, _, _ => false
  | n + 1, i, pt => (slotP P i == .empty) || hits P n ((i * 5 + 1 + pt / 32) % 8) (pt / 32)
theorem okP_cases {P : Array Nat} (h : okP P = true) : P = #[] ∨ (∃ a, a < 8 ∧ P = #[a]) ∨ ∃ a b, a < b ∧ b < 8 ∧ P = #[a, b] := by
  obtain ⟨l⟩ := P
  rcases l with _ | ⟨a, _ | ⟨b, _ | ⟨c, l⟩⟩⟩
  · exact .inl rfl
  · simp [okP] at h; exact .inr (.inl ⟨a, h, rfl⟩)
  · simp [okP] at h; exact .inr (.inr ⟨a, b, h.1, h.2, rfl⟩)
  · simp [okP] at h
theorem hits0 : ∀ i, i < 8 → hits #[] 8 i 0 = true := by decide
theorem hits1 : ∀ a, a < 8 → ∀ i, i < 8 → hits #[a] 8 i 0 = true := by decide +kernel
theorem hits2 : ∀ a, a < 8 → ∀ b, b < 8 → ∀ i, i < 8 → hits #[a, b] 8 i 0 = true := by decide +kernel
theorem hits_zero {P : Array Nat} (h : okP P = true) {i : Nat} (hi : i < 8) : hits P 8 i 0 = true := by
  rcases okP_cases h with rfl | ⟨a, ha, rfl⟩ | ⟨a, b, hab, hb, rfl⟩
  · exact hits0 i hi
  · exact hits1 a ha i hi
  · exact hits2 a (by omega) b hb i hi
theorem hits_more {P : Array Nat} (h : okP P = true) : ∀ k i pt, i < 8 → pt < 32 ^ k → hits P (8 + k) i pt = true := by
  intro k
  induction k with
  | zero =>
    intro i pt hi hp
    have e : pt = 0 := by simpa using hp
    subst e
    exact hits_zero h hi
  | succ k ih =>
    intro i pt hi hp
    show ((slotP P i == .empty) || hits P (8 + k) ((i * 5 + 1 + pt / 32) % 8) (pt / 32)) = true
    rw [ih _ _ (Nat.mod_lt _ (by decide)) (Nat.div_lt_of_lt_mul (by rw [Nat.pow_succ] at hp; omega)), Bool.or_true]
def pr (i pt : Nat) : SetTable.Probe := { j := i, more := 0, i := i, perturb := pt, dummy := none }
theorem advance_pr {t : SetTable} (hm : t.mask = 7) (i pt : Nat) : t.advance (pr i pt) = pr ((i * 5 + 1 + pt / 32) % 8) (pt / 32) := by
  have h2 : ¬ ((i * 5 + 1 + pt / 32) % 8 + 9 ≤ 7) := by omega
  simp [SetTable.advance, pr, SetTable.leap, SetTable.runEnd, hm, h2]
theorem start_pr {t : SetTable} (hm : t.mask = 7) (h : Int) : t.probeStart h = pr (SetTable.bits h % 8) (SetTable.bits h) := by
  have h2 : ¬ (SetTable.bits h % 8 + 9 ≤ 7) := by omega
  simp [SetTable.probeStart, pr, SetTable.runEnd, hm, h2]
theorem bits_lt (h : Int) : SetTable.bits h < 32 ^ 13 := by
  unfold SetTable.bits
  have h1 : h % (2 ^ 64 : Int) < 2 ^ 64 := Int.emod_lt_of_pos _ (by decide)
  have h0 : 0 ≤ h % (2 ^ 64 : Int) := Int.emod_nonneg _ (by decide)
  have : (h % (2 ^ 64 : Int)).toNat < 2 ^ 64 := by omega
  exact Nat.lt_of_lt_of_le this (by decide)
/-- what a probe meets -/
def MeetsP (t : SetTable) (hashAt : Nat → Int) (h : Int) (n : Nat) (r : SetTable.Met) : Prop :=
  (∃ j, r = .empty j none ∧ slotP t.place j = .empty ∧ j < 8) ∨ ∃ j k i2 pt2 n2, r = .candidate j k (pr i2 pt2) ∧ n2 < n ∧ i2 < 8 ∧ hits t.place n2 i2 pt2 = true ∧ slotP t.place j = .live k ∧ (hashAt k == h) = true
theorem slotP_cases (P : Array Nat) (j : Nat) : slotP P j = .empty ∨ ∃ k, slotP P j = .live k := by
  unfold slotP; split
  · exact .inr ⟨_, rfl⟩
  · exact .inl rfl
theorem go_spec {t : SetTable} (hm : t.mask = 7) (hd : t.dummies = #[]) (hashAt : Nat → Int) (h : Int) : ∀ n fuel i pt, i < 8 → n ≤ fuel → hits t.place n i pt = true → ∃ r, SetTable.probe.go t hashAt h fuel (pr i pt) = some r ∧ MeetsP t hashAt h n r := by
  intro n
  induction n with
  | zero => intro _ _ _ _ _ hh; exact absurd hh (by simp [hits])
  | succ n ih =>
    intro fuel i pt hi hf hh
    obtain ⟨fuel, rfl⟩ : ∃ f, fuel = f + 1 := ⟨fuel - 1, by omega⟩
    unfold SetTable.probe.go
    rw [slot_eq hd]
    show ∃ r, (match slotP t.place i with
      | .empty => some (.empty i none)
      | .dummy => SetTable.probe.go t hashAt h fuel (t.advance { pr i pt with dummy := some i })
      | .live k => if hashAt k == h then some (.candidate i k (t.advance (pr i pt))) else SetTable.probe.go t hashAt h fuel (t.advance (pr i pt))) = some r ∧ _
    rcases slotP_cases t.place i with hs | ⟨k, hs⟩
    · rw [hs]; exact ⟨_, rfl, .inl ⟨i, rfl, hs, hi⟩⟩
    · rw [hs]
      have hn : hits t.place n ((i * 5 + 1 + pt / 32) % 8) (pt / 32) = true := by
        unfold hits at hh
        rw [hs] at hh
        simpa using hh
      dsimp only
      rw [advance_pr hm]
      by_cases hq : (hashAt k == h) = true
      · rw [if_pos hq]
        exact ⟨_, rfl, .inr ⟨i, k, _, _, n, rfl, Nat.lt_succ_self _, Nat.mod_lt _ (by decide), hn, hs, hq⟩⟩
      · rw [if_neg hq]
        obtain ⟨r, hr, hm'⟩ := ih fuel _ _ (Nat.mod_lt _ (by decide)) (by omega) hn
        refine ⟨r, hr, ?_⟩
        rcases hm' with h1 | ⟨j, k', i2, pt2, n2, e, hl, r⟩
        · exact .inl h1
        · exact .inr ⟨j, k', i2, pt2, n2, e, Nat.lt_succ_of_lt hl, r⟩
theorem probe_spec {t : SetTable} (hm : t.mask = 7) (hd : t.dummies = #[]) (h : Int) {n i pt : Nat} (hi : i < 8) (hn : n ≤ 200) (hh : hits t.place n i pt = true) (hashAt : Nat → Int) : ∃ r, t.probe hashAt h (pr i pt) = some r ∧ MeetsP t hashAt h n r := by
  unfold SetTable.probe
  refine go_spec hm hd hashAt h n _ i pt hi ?_ hh
  rw [hm]
  show n ≤ 10 * (7 + 15)
  omega

end

section
open PySem PySem.W PySem.Calls PyProof.Rows
set_option maxHeartbeats 4000000
section
variable {prog : Program} {w : World} {A : Around} {E : Value → Shared → Prop} {s : Shared} {S r : Addr} {es : Array (Int × Value)} {ep : Nat} {t : SetTable} {h : Int}
/-- a tuple of ints, by its numbers -/
abbrev TK (prog : Program) (w : World) (h : Heap) (ks : List Int) (r : Addr) : Prop := IsTupleKey (intKind prog w) h ks r
/-- a set of few tuples of ints -/
structure SetR (prog : Program) (w : World) (hp : Heap) (S : Addr) (es : Array (Int × Value)) (ep : Nat) (t : SetTable) : Prop where
  at_ : hp.get? S = some { cls := .type "set", dict := none, data := .set es ep t }
  mask : t.mask = 7
  dum : t.dummies = #[]
  size : t.place.size = es.size
  ok : okP t.place = true
  el : ∀ e ∈ es.toList, ∃ r ks, e.2 = .ref r ∧ TK prog w hp ks r ∧ e.1 = tupleKeyHash (intKind prog w) ks
theorem SetR.small {hp : Heap} (R : SetR prog w hp S es ep t) : es.size ≤ 2 := by
  rcases okP_cases R.ok with h | ⟨a, _, h⟩ | ⟨a, b, _, _, h⟩ <;> (have := R.size; rw [h] at this; simp at this; omega)
theorem SetR.fits {hp : Heap} (R : SetR prog w hp S es ep t) : t.fits es.size = true := by
  have h1 := R.small
  have h2 : t.fill = t.place.size := by unfold SetTable.fill; rw [R.dum]; rfl
  unfold SetTable.fits
  rw [h2, R.size, R.mask]
  simp; omega
theorem SetR.state {hp : Heap} (R : SetR prog w hp S es ep t) {M : Model} : Looks M hp (setState S) (es, ep, t) := by
  intro A Q E s k q
  have hf := R.fits
  unfold setState
  refine wpAny_bind (wpAny_load (k _ _ R.at_) ?_)
  dsimp only
  have hc : (t.place.size != es.size || decide (t.fill > t.mask)) = false := by
    simp only [SetTable.fits, Bool.and_eq_true, beq_iff_eq, decide_eq_true_eq] at hf
    simp [hf.1, Nat.not_lt.mpr hf.2]
  rw [hc]
  exact wpAny_pure q
theorem tk_type {M : Model} {hp : Heap} {ks : List Int} (T : TK prog w hp ks r) : Looks M hp (typeOf (.ref r)) (.type "tuple") := by
  obtain ⟨o, _, _, ho, hc, _⟩ := T
  exact hc ▸ (Looks.ld ho).andThen .now
/-- nothing of the program's own is seen when tuples of ints are compared -/
theorem tk_own {M : Model} {hp : Heap} {ks : List Int} (T : TK prog w hp ks r) : Looks M hp (ofAClassStatement 8 (.ref r)) false := by
  intro A Q E s k q
  have t1 := (tk_type (M := M) T).keeps k
  obtain ⟨o, items, n, ho, hc, hd, hi⟩ := T
  have ho' := k _ _ ho
  unfold ofAClassStatement
  refine wpAny_bind (t1.here ?_)
  dsimp only
  rw [if_pos (by decide)]
  refine wpAny_bind (wpAny_pure ?_)
  rw [if_neg (by decide)]
  refine wpAny_bind (wpAny_seqItems ho' hd ?_)
  dsimp only
  refine wpAny_bind ?_
  rw [← Array.forIn_toList]
  refine wpAny_forIn_list _ (fun rest b s' => b.1 = none ∧ s' = s ∧ ∃ ks, ItemsAre (intKind prog w) ks rest) _ ?_ ?_ _ _ ⟨rfl, rfl, ks, hi⟩
  · rintro v rest b s' ⟨hb, rfl, ks, hi⟩
    cases hi with
    | cons h1 h2 =>
      obtain ⟨t, rfl⟩ := Value.isInt_shape h1
      refine wpAny_bind (wpAny_of_eq (a := false) rfl ?_)
      rw [if_neg (by decide)]
      exact wpAny_pure ⟨rfl, rfl, _, h2⟩
  · rintro ⟨b1, b2⟩ s' ⟨hb, rfl, _⟩
    dsimp only at hb
    subst hb
    exact wpAny_pure q
theorem tk_keep {hp hp' : Heap} {ks : List Int} (T : TK prog w hp ks r) (k : ∀ b o, hp.get? b = some o → hp'.get? b = some o) : TK prog w hp' ks r :=
  let ⟨o, items, n, ho, hc, hd, hi⟩ := T; ⟨o, items, n, k _ _ ho, hc, hd, hi⟩
theorem tk_quiet {hp : Heap} {ks : List Int} (T : TK prog w hp ks r) : Looks (model prog w) hp (eqIsQuiet 8 (.ref r)) true := by
  intro A Q E s k q
  exact wpAny_eqIsQuiet_tuple (tk_keep T k) q
theorem tk_byvalue {hp : Heap} {ks : List Int} (T : TK prog w hp ks r) : Looks (model prog w) hp (hashByValue 8 (.ref r)) true := by
  intro A Q E s k q
  have T' := tk_keep T k
  have hT : s.TypeIs (.ref r) "tuple" := T'.typeIs
  obtain ⟨o, items, n, ho, hc, hd, hi⟩ := T'
  unfold hashByValue
  refine wpAny_bind (wpAny_specialOf hT PySem.F.slot_tuple_hash.lookup ?_)
  dsimp only
  refine wpAny_bind (wpAny_seqItems ho hd ?_)
  refine wpAny_bind ?_
  show wpAny _ _ (forIn items _ _) _ _ s
  rw [← Array.forIn_toList]
  refine wpAny_forIn_list _ (fun rest b s' => b.1 = none ∧ s' = s ∧ ∃ ks, ItemsAre (intKind prog w) ks rest) _ ?_ ?_ _ _ ⟨rfl, rfl, ks, hi⟩
  · rintro v rest b s' ⟨hb, rfl, ks, hi⟩
    cases hi with
    | cons h1 h2 =>
      obtain ⟨t, rfl⟩ := Value.isInt_shape h1
      refine wpAny_bind (wpAny_of_eq (a := true) rfl ?_)
      rw [if_neg (by decide)]
      exact wpAny_pure ⟨rfl, rfl, _, h2⟩
  · rintro ⟨b1, b2⟩ s' ⟨hb, rfl, _⟩
    dsimp only at hb
    subst hb
    exact wpAny_pure q
/-- no search among tuples of ints could be seen -/
theorem tk_unseen {hp : Heap} {ks : List Int} (T : TK prog w hp ks r) {l : List Value} (hl : ∀ v ∈ l, ∃ r ks, v = .ref r ∧ TK prog w hp ks r) : Looks (model prog w) hp (searchCouldBeSeen (.ref r) l) false := by
  intro A Q E s k q
  unfold searchCouldBeSeen
  refine wpAny_bind ?_
  refine wpAny_forIn_list _ (fun rest b s' => b.1 = none ∧ s' = s ∧ ∀ v ∈ rest, ∃ r ks, v = .ref r ∧ TK prog w hp ks r) _ ?_ ?_ _ _ ⟨rfl, rfl, hl⟩
  · rintro v rest b s' ⟨hb, rfl, hr⟩
    obtain ⟨r', ks', rfl, T'⟩ := hr v (.head _)
    have hr' : ∀ v ∈ rest, ∃ r ks, v = .ref r ∧ TK prog w hp ks r := fun v hv => hr v (.tail _ hv)
    dsimp only
    split
    · exact wpAny_pure ⟨rfl, rfl, hr'⟩
    · refine wpAny_bind ((tk_quiet T).keeps k |>.here ?_)
      rw [if_neg (by decide)]
      refine wpAny_bind ((tk_quiet T').keeps k |>.here ?_)
      rw [if_neg (by decide)]
      refine wpAny_bind ((tk_own T).keeps k |>.here ?_)
      rw [if_neg (by decide)]
      refine wpAny_bind ((tk_own T').keeps k |>.here ?_)
      rw [if_neg (by decide)]
      exact wpAny_pure ⟨rfl, rfl, hr'⟩
  · rintro ⟨b1, b2⟩ s' ⟨hb, rfl, _⟩
    dsimp only at hb
    subst hb
    exact wpAny_pure q
theorem slotP_live {P : Array Nat} {j k : Nat} (h : slotP P j = .live k) : P[k]? = some j := by
  unfold slotP at h
  split at h
  · rename_i e
    cases h
    exact eq_of_beq e
  · cases h
theorem hits_mono {P : Array Nat} : ∀ {n m i pt : Nat}, n ≤ m → hits P n i pt = true → hits P m i pt = true
  | 0, _, _, _, _, h => absurd h (by simp [hits])
  | n + 1, 0, _, _, hl, _ => absurd hl (by omega)
  | n + 1, m + 1, i, pt, hl, h => by
    unfold hits at h ⊢
    rw [Bool.or_eq_true] at h ⊢
    exact h.imp id (hits_mono (by omega))
/-- a search for a tuple of ints -/
theorem tk_search {ks : List Int} (R : SetR prog w s.heap S es ep t) (T : TK prog w s.heap ks r) (hu : A.units + 10 < cLine) {Q : SetFound → Shared → Prop}
    (hfound : ∀ e ∈ es.toList, ∀ r' ks', e.2 = .ref r' → TK prog w s.heap ks' r' → ks' = ks → Q (.there none) s)
    (hfree : ∀ j, j < 8 → slotP t.place j = .empty → Q (.free j false) s) :
    ∀ n f i pt st, st.getD (t.probeStart h) = pr i pt → n ≤ f → n ≤ 200 → i < 8 → hits t.place n i pt = true → wpAny (model prog w) A (setSearchFrom S (.ref r) h true (f + 1) st) Q E s := by
  intro n
  induction n with
  | zero => intro _ _ _ _ _ _ _ _ hh; exact absurd hh (by simp [hits])
  | succ n ih =>
    intro f i pt st hst hf hn hi hh
    unfold setSearchFrom
    refine wpAny_bind (R.state.here ?_)
    dsimp only
    rw [if_neg (by unfold SetTable.gaveWay; rw [R.mask]; decide)]
    have spec := probe_spec R.mask R.dum h hi (by omega) hh
    obtain ⟨met, hmp⟩ : ∃ met : (Nat → Int) → SetTable.Met, ∀ HA, t.probe HA h (pr i pt) = some (met HA) ∧ MeetsP t HA h (n + 1) (met HA) := ⟨fun HA => (spec HA).choose, fun HA => (spec HA).choose_spec⟩
    clear spec
    rw [hst, (hmp _).1]
    generalize hmm : met _ = mm
    have hmet : ∃ HA, MeetsP t HA h (n + 1) mm := by
      rw [← hmm]
      exact ⟨_, (hmp _).2⟩
    obtain ⟨HA, hmet⟩ := hmet
    dsimp only
    rcases hmet with ⟨j, rfl, hj, hj8⟩ | ⟨j, k, i2, pt2, n2, rfl, hlt, hi2, hh2, hs, hq⟩
    · exact wpAny_pure (hfree j hj8 hj)
    · dsimp only
      have hkp := slotP_live hs
      have hke : ∃ e, es[k]? = some e := by
        obtain ⟨hk1, _⟩ := Array.getElem?_eq_some_iff.mp hkp
        rw [R.size] at hk1
        exact ⟨es[k], Array.getElem?_eq_getElem hk1⟩
      obtain ⟨⟨eh, ev⟩, hke⟩ := hke
      have hmem : (eh, ev) ∈ es.toList := by
        rw [Array.mem_toList_iff]
        exact Array.mem_of_getElem? hke
      obtain ⟨r', ks', hev, T', _⟩ := R.el _ hmem
      dsimp only at hev
      subst hev
      have hsame : t.sameMemory t.moves t.mask = some true := by unfold SetTable.sameMemory; simp
      have hl : ∀ v ∈ (es.filter fun e => e.1 == h).toList.map (·.2), ∃ r ks, v = Value.ref r ∧ TK prog w s.heap ks r := by
        intro v hv
        obtain ⟨e, he, rfl⟩ := List.mem_map.mp hv
        have : e ∈ es.toList := by
          rw [Array.mem_toList_iff] at he ⊢
          exact (Array.mem_filter.mp he).1
        obtain ⟨r2, ks2, h1, h2, _⟩ := R.el e this
        exact ⟨r2, ks2, h1, h2⟩
      have L := tk_unseen T hl
      cases hled : t.led
      all_goals (
        first
          | (rw [if_pos (by rfl)]; refine wpAny_bind (L.here ?_); rw [if_neg (by decide)])
          | rw [if_neg (by simp)]
        rw [hke]
        dsimp only
        refine wpAny_bind (wpAny_holding (wpAny_eqBool_tuple (by omega) T' T ?_))
        refine wpAny_bind (R.state.here ?_)
        dsimp only
        by_cases hk : ks' = ks
        · rw [if_pos (by simp [hk])]
          exact wpAny_pure (hfound _ hmem r' ks' rfl T' hk)
        · rw [if_neg (by simp [hk]), hsame]
          dsimp only
          rw [if_pos rfl, slot_eq R.dum, hs]
          dsimp only
          rw [hke]
          dsimp only
          refine wpAny_bind ?_
          unfold isSame
          dsimp only
          rw [if_pos (by simp)]
          refine wpAny_pure (wpAny_bind (wpAny_pure ?_))
          rw [if_pos rfl]
          dsimp only
          rw [if_neg (by simp [hk])]
          obtain ⟨f, rfl⟩ : ∃ f', f = f' + 1 := ⟨f - 1, by omega⟩
          exact ih f i2 pt2 (some (pr i2 pt2)) rfl (by omega) (by omega) hi2 (hits_mono (by omega) hh2))
/-- the same tuple as the one that is there -/
theorem tk_search1 {ks : List Int} {r1 : Addr} (R : SetR prog w s.heap S #[(h, .ref r1)] ep t) (T : TK prog w s.heap ks r) (T1 : TK prog w s.heap ks r1) (hp : t.place = #[SetTable.bits h % 8]) (hu : A.units + 10 < cLine) {Q : SetFound → Shared → Prop}
    (hq : Q (.there none) s) (f : Nat) : wpAny (model prog w) A (setSearchFrom S (.ref r) h true (f + 1) none) Q E s := by
  unfold setSearchFrom
  refine wpAny_bind (R.state.here ?_)
  dsimp only
  rw [if_neg (by unfold SetTable.gaveWay; rw [R.mask]; decide)]
  have hs : slotP t.place (SetTable.bits h % 8) = .live 0 := by
    rw [hp]
    have : ∀ a, a < 8 → slotP #[a] a = .live 0 := by decide
    exact this _ (Nat.mod_lt _ (by decide))
  have key : ∀ HA : Nat → Int, HA 0 = h → t.probe HA h (Option.getD none (t.probeStart h)) = some (.candidate (SetTable.bits h % 8) 0 (t.advance (pr (SetTable.bits h % 8) (SetTable.bits h)))) := by
    intro HA hHA
    show t.probe HA h (t.probeStart h) = _
    rw [start_pr R.mask]
    unfold SetTable.probe
    obtain ⟨k, hk⟩ : ∃ k, 10 * SetTable.turns t.mask = k + 1 := ⟨219, by rw [R.mask]; rfl⟩
    rw [hk]
    unfold SetTable.probe.go
    rw [slot_eq R.dum]
    have hs' : slotP t.place (pr (SetTable.bits h % 8) (SetTable.bits h)).j = .live 0 := hs
    rw [hs']
    dsimp only
    rw [if_pos (by rw [hHA]; exact beq_self_eq_true h)]
    rfl
  rw [key]
  rotate_left
  · rfl
  dsimp only
  have hl : ∀ v ∈ ((#[(h, Value.ref r1)] : Array (Int × Value)).filter fun e => e.1 == h).toList.map (·.2), ∃ r ks, v = Value.ref r ∧ TK prog w s.heap ks r := by
    intro v hv
    obtain ⟨e, he, rfl⟩ := List.mem_map.mp hv
    have : e ∈ (#[(h, Value.ref r1)] : Array (Int × Value)).toList := by
      rw [Array.mem_toList_iff] at he ⊢
      exact (Array.mem_filter.mp he).1
    obtain ⟨r2, ks2, h1, h2, _⟩ := R.el e this
    exact ⟨r2, ks2, h1, h2⟩
  have L := tk_unseen T hl
  cases hled : t.led
  all_goals (
    first
      | (rw [if_pos (by rfl)]; refine wpAny_bind (L.here ?_); rw [if_neg (by decide)])
      | rw [if_neg (by simp)]
    rw [show (#[(h, Value.ref r1)] : Array (Int × Value))[0]? = some (h, Value.ref r1) from rfl]
    dsimp only
    refine wpAny_bind (wpAny_holding (wpAny_eqBool_tuple (by omega) T1 T ?_))
    refine wpAny_bind (R.state.here ?_)
    rw [if_pos (by simp)]
    exact wpAny_pure hq)
theorem tk_searchA {ks : List Int} (R : SetR prog w s.heap S es ep t) (T : TK prog w s.heap ks r) (hu : A.units + 10 < cLine) {Q : SetFound → Shared → Prop}
    (hfound : ∀ e ∈ es.toList, ∀ r' ks', e.2 = .ref r' → TK prog w s.heap ks' r' → ks' = ks → Q (.there none) s)
    (hfree : ∀ j, j < 8 → slotP t.place j = .empty → (t.place = #[] → j = SetTable.bits h % 8) → Q (.free j false) s) : wpAny (model prog w) A (setSearchFrom S (.ref r) h true (99999 + 1) none) Q E s := by
  by_cases hP : t.place = #[]
  · unfold setSearchFrom
    refine wpAny_bind (R.state.here ?_)
    dsimp only
    rw [if_neg (by unfold SetTable.gaveWay; rw [R.mask]; decide)]
    have hs : slotP t.place (SetTable.bits h % 8) = .empty := by
      rw [hP]
      have : ∀ a, a < 8 → slotP #[] a = .empty := by decide
      exact this _ (Nat.mod_lt _ (by decide))
    have key : ∀ HA : Nat → Int, t.probe HA h (Option.getD none (t.probeStart h)) = some (.empty (SetTable.bits h % 8) none) := by
      intro HA
      show t.probe HA h (t.probeStart h) = _
      rw [start_pr R.mask]
      unfold SetTable.probe
      obtain ⟨k, hk⟩ : ∃ k, 10 * SetTable.turns t.mask = k + 1 := ⟨219, by rw [R.mask]; rfl⟩
      rw [hk]
      unfold SetTable.probe.go
      rw [slot_eq R.dum]
      have hs' : slotP t.place (pr (SetTable.bits h % 8) (SetTable.bits h)).j = .empty := hs
      rw [hs']
      rfl
    rw [key]
    exact wpAny_pure (hfree _ (Nat.mod_lt _ (by decide)) hs fun _ => rfl)
  · exact tk_search R T hu hfound (fun j h1 h2 => hfree j h1 h2 fun e => absurd e hP) (8 + 13) 99999 (SetTable.bits h % 8) (SetTable.bits h) none (start_pr R.mask h) (by decide) (by decide) (Nat.mod_lt _ (by decide)) (hits_more R.ok 13 _ _ (Nat.mod_lt _ (by decide)) (bits_lt h))
end

end

section
open PySem PySem.W PySem.Calls PyProof.Rows
set_option maxHeartbeats 4000000
theorem put1 : ∀ j, j < 8 → SetTable.below #[] j = 0 ∧ SetTable.insertAt #[] 0 j = #[j] := by decide
theorem put2 : ∀ a, a < 8 → ∀ j, j < 8 → slotP #[a] j = .empty → SetTable.below #[a] j ≤ 1 ∧ okP (SetTable.insertAt #[a] (SetTable.below #[a] j) j) = true ∧ (SetTable.insertAt #[a] (SetTable.below #[a] j) j).size = 2 := by decide +kernel
theorem put3 : ∀ a, a < 8 → ∀ b, b < 8 → ∀ j, j < 8 → SetTable.below #[a, b] j ≤ 2 ∧ (SetTable.insertAt #[a, b] (SetTable.below #[a, b] j) j).size = 3 := by decide +kernel
theorem ins_few {α : Type} {es : Array α} {p : Nat} {e : α} (hs : es.size ≤ 2) (hp : p ≤ es.size) : (SetTable.insertAt es p e).size = es.size + 1 ∧ ∀ x ∈ (SetTable.insertAt es p e).toList, x = e ∨ x ∈ es.toList := by
  obtain ⟨l⟩ := es
  rcases l with _ | ⟨a, _ | ⟨b, _ | ⟨c, l⟩⟩⟩
  · obtain rfl : p = 0 := by simpa using hp
    exact ⟨rfl, by simp [SetTable.insertAt]⟩
  · have : p = 0 ∨ p = 1 := by simp at hp; omega
    rcases this with rfl | rfl
    · exact ⟨rfl, by simp [SetTable.insertAt]⟩
    · exact ⟨rfl, by simp [SetTable.insertAt]⟩
  · have : p = 0 ∨ p = 1 ∨ p = 2 := by simp at hp; omega
    rcases this with rfl | rfl | rfl
    · exact ⟨rfl, by simp [SetTable.insertAt]⟩
    · exact ⟨rfl, by simp [SetTable.insertAt]⟩
    · exact ⟨rfl, by simp [SetTable.insertAt]⟩
  · simp at hs
section
variable {prog : Program} {w : World} {A : Around} {E : Value → Shared → Prop} {s : Shared} {S r : Addr} {es : Array (Int × Value)} {ep : Nat} {t : SetTable}
theorem tk_same {hp hp' : Heap} {S : Addr} {ks : List Int} {o : Obj} (T : TK prog w hp ks r) (ho : hp.get? S = some o) (hc : o.cls = .type "set") (hs : Heap.SameBut S hp hp') : TK prog w hp' ks r := by
  obtain ⟨o', items, n, ho', hc', hd, hi⟩ := T
  have : r ≠ S := by rintro rfl; rw [ho] at ho'; cases ho'; rw [hc] at hc'; simp at hc'
  exact ⟨o', items, n, (hs.2 r this).trans ho', hc', hd, hi⟩
theorem tk_add {ks : List Int} (R : SetR prog w s.heap S es ep t) (T : TK prog w s.heap ks r) (hu : A.units + 10 < cLine) {Q : Bool → Shared → Prop}
    (hf : (∃ e ∈ es.toList, ∃ r', e.2 = .ref r' ∧ TK prog w s.heap ks r') → ∀ tk, Q false { s with toks := tk })
    (hn : ∀ h' tk es' ep' t', Heap.SameBut S s.heap h' → h'.get? S = some { cls := .type "set", dict := none, data := .set es' ep' t' } → es'.size = es.size + 1 → t'.fits es'.size = true → (es.size ≤ 1 → SetR prog w h' S es' ep' t') →
      (es.size = 0 → es' = #[(tupleKeyHash (intKind prog w) ks, .ref r)] ∧ t'.place = #[SetTable.bits (tupleKeyHash (intKind prog w) ks) % 8]) → Q true { s with heap := h', toks := tk }) :
    wpAny (model prog w) A (setAdd S (.ref r)) Q E s := by
  unfold setAdd
  refine wpAny_holding (wpAny_bind (wpAny_pyHash_tuple (by omega) T ?_))
  unfold setAddHashed
  refine wpAny_holding ?_
  generalize hh : tupleKeyHash (intKind prog w) ks = h at hn ⊢
  replace hh := hh.symm
  generalize s.toks + (ks.length + 1) = tk
  have R1 : SetR prog w ({ s with toks := tk } : Shared).heap S es ep t := R
  have T1 : TK prog w ({ s with toks := tk } : Shared).heap ks r := T
  show wpAny _ _ (setAddHashedIn S (.ref r) h (99999 + 1)) _ _ _
  unfold setAddHashedIn
  refine wpAny_bind (R1.state.here ?_)
  dsimp only
  rw [if_neg (show ¬ byScan (.ref r) es = true from Bool.false_ne_true)]
  refine wpAny_bind ?_
  unfold setSearch
  have hb := bits_lt h
  show wpAny _ _ (setSearchFrom S (.ref r) h true (99999 + 1) none) _ _ _
  refine tk_searchA R1 T1 hu ?_ ?_
  · rintro e he r' ks' hev T' rfl
    exact wpAny_pure (hf ⟨e, he, r', hev, T'⟩ tk)
  · intro j hj8 hj hjs
    dsimp only
    refine wpAny_bind (R1.state.here ?_)
    dsimp only
    have hhas : SetTable.has t.dummies j = false := by rw [R.dum]; rfl
    have hput : t.put j = ({ t with place := SetTable.insertAt t.place (SetTable.below t.place j) j, dummies := t.dummies }, SetTable.below t.place j) := by
      unfold SetTable.put; simp only [hhas]; rfl
    rw [hput]
    dsimp only
    have facts : SetTable.below t.place j ≤ es.size ∧ (SetTable.insertAt t.place (SetTable.below t.place j) j).size = es.size + 1 ∧ (es.size ≤ 1 → okP (SetTable.insertAt t.place (SetTable.below t.place j) j) = true) ∧ (es.size = 0 → SetTable.insertAt t.place (SetTable.below t.place j) j = #[j]) := by
      have hsz := R.size
      rcases okP_cases R.ok with hP | ⟨a, ha, hP⟩ | ⟨a, b, hab, hbb, hP⟩ <;> rw [hP] at hsz hj ⊢
      · have := put1 j hj8
        have h0 : es.size = 0 := by simpa using hsz.symm
        rw [this.1, this.2, h0]
        refine ⟨Nat.le_refl _, rfl, fun _ => ?_, fun _ => rfl⟩
        show decide (j < 8) = true
        simpa using hj8
      · have := put2 a ha j hj8 hj
        have h1 : es.size = 1 := by simpa using hsz.symm
        rw [h1]
        exact ⟨this.1, this.2.2, fun _ => this.2.1, fun e => by omega⟩
      · have := put3 a (by omega) b hbb j hj8
        have h1 : es.size = 2 := by simpa using hsz.symm
        rw [h1]
        exact ⟨this.1, this.2, fun e => by omega, fun e => by omega⟩
    obtain ⟨f1, f2, f3, f4⟩ := facts
    have hins := ins_few (e := (h, Value.ref r)) R.small f1
    have hP0 : es.size = 0 → t.place = #[] := fun e => by have := R.size; rw [e] at this; exact Array.eq_empty_of_size_eq_zero this
    have hes0 : es.size = 0 → SetTable.insertAt es (SetTable.below t.place j) (h, Value.ref r) = #[(h, Value.ref r)] := fun e => by
      rw [hP0 e, Array.eq_empty_of_size_eq_zero e, (put1 j hj8).1]; rfl
    generalize hpl : SetTable.insertAt t.place (SetTable.below t.place j) j = pl at f2 f3 f4 ⊢
    generalize hes : SetTable.insertAt es (SetTable.below t.place j) (h, Value.ref r) = es' at hins hes0 ⊢
    have hsmall := R.small
    have hfill : ({ t with place := pl } : SetTable).fill = es.size + 1 := by
      unfold SetTable.fill
      show pl.size + t.dummies.size = _
      rw [R.dum, f2]; rfl
    have hfits : ({ t with place := pl } : SetTable).fits es'.size = true := by
      unfold SetTable.fits
      rw [hfill]
      show (pl.size == es'.size && decide (es.size + 1 ≤ t.mask)) = true
      rw [f2, hins.1, R.mask]
      simp; omega
    have fin : wpAny (model prog w) A (storeSet S es' { t with place := pl } >>= fun _ => if (!false && ({ t with place := pl } : SetTable).tooFull) = true then do setRelay S (SetTable.grown (es.size + 1)); pure true else pure true) Q E { s with toks := tk } := by
      refine wpAny_bind (wpAny_storeSet_of R1.at_ rfl ?_ (by rw [sizeLine_eq, hins.1]; omega))
      rw [if_neg (by
        have : ({ t with place := pl } : SetTable).tooFull = false := by
          unfold SetTable.tooFull
          rw [hfill]
          show decide ((es.size + 1) * 5 ≥ t.mask * 3) = false
          rw [R.mask]
          simp; omega
        simp [this])]
      refine wpAny_pure ?_
      have hsb : Heap.SameBut S s.heap (s.heap.update S (Obj.putSet es' { t with place := pl })) := Heap.SameBut.update ..
      have hat : (s.heap.update S (Obj.putSet es' { t with place := pl })).get? S = some { cls := .type "set", dict := none, data := .set es' (ep + 1) { t with place := pl } } := by
        have := Heap.get?_update_self (Obj.putSet es' { t with place := pl }) R.at_ (by rw [putSet_of es' { t with place := pl } rfl]; rfl)
        rw [this, putSet_of es' { t with place := pl } rfl]
      refine hn _ tk es' (ep + 1) { t with place := pl } hsb hat hins.1 hfits (fun h1 => ?_) (fun h0 => ?_)
      · refine ⟨hat, R.mask, R.dum, by show pl.size = es'.size; rw [f2, hins.1], f3 h1, ?_⟩
        intro e he
        rcases hins.2 e he with rfl | he
        · exact ⟨r, ks, rfl, tk_same T R.at_ rfl hsb, hh⟩
        · obtain ⟨r', ks', a, b, c⟩ := R.el e he
          exact ⟨r', ks', a, tk_same b R.at_ rfl hsb, c⟩
      · refine ⟨hes0 h0, ?_⟩
        show pl = _
        rw [f4 h0, hjs (hP0 h0)]
    cases hpla : t.plain with
    | true =>
      rw [if_pos rfl]
      refine wpAny_bind ((tk_byvalue T1).here ?_)
      rw [if_pos rfl]
      have e : ({ mask := t.mask, place := pl, dummies := t.dummies, finger := t.finger, led := t.led, moves := t.moves, plain := true } : SetTable) = { t with place := pl } := by rw [← hpla]
      rw [e]
      exact fin
    | false =>
      rw [if_neg (by decide)]
      refine wpAny_bind (wpAny_pure ?_)
      rw [if_pos rfl]
      have e : ({ mask := t.mask, place := pl, dummies := t.dummies, finger := t.finger, led := t.led, moves := t.moves, plain := false } : SetTable) = { t with place := pl } := by rw [← hpla]
      rw [e]
      exact fin
end

end

section
open PySem PySem.W PySem.Calls PyProof.Rows
set_option maxHeartbeats 4000000
theorem sub_tup_set : isSubtype (.type "tuple") (.type "set") = pure false := by rw [isSubtype_type]; kernel_rfl
theorem sub_tup_fro : isSubtype (.type "tuple") (.type "frozenset") = pure false := by rw [isSubtype_type]; kernel_rfl
section
variable {prog : Program} {w : World} {A : Around} {E : Value → Shared → Prop} {s : Shared} {S I D : Addr} {vs : Array Value} {R : Result → Shared → Prop}
/-- one more item of the tuple goes into the set -/
theorem upd_item {i : Nat} {v : Value} (hA : A.handled = none) (hDI : D ≠ I) (hit : s.heap.IsTupleIter I D i) (hl : s.heap.IsTuple D vs) (hv : vs[i]? = some v)
    (h : ∀ h₁ tk, h₁.IsTupleIter I D (i + 1) → h₁.IsTuple D vs → (∀ b o, b ≠ I → s.heap.get? b = some o → h₁.get? b = some o) →
      wpAny (model prog w) A.in1 (setAdd S v) (fun _ s₂ => codeAny (model prog w) A (.builtin "set.update.loop" ⟨[.ref S, .ref I], []⟩) R s₂) (fun e s' => R (.error e) s') { s with heap := h₁, toks := tk }) :
    codeAny (model prog w) A (.builtin "set.update.loop" ⟨[.ref S, .ref I], []⟩) R s := by
  have W : Walks prog w A.in1 I [I, D] [I] vs.size _ _ := Walks.tuple (by simpa using hA) I D hDI vs
  have hi : i < vs.size := (Array.getElem?_eq_some_iff.mp hv).1
  refine codeAny_builtin F.entry_set_update_loop ?_
  rw [Around.under_plainId F.plain_set_update_loop _]
  show wpAny _ A.in1 (pyNext (.ref I) >>= _) _ _ s
  refine wpAny_bind (W.item i s _ _ hi ⟨hit, hl⟩ fun v' h₁ tk₁ hP hst hk => ?_)
  rw [hv] at hP
  cases hP
  show wpAny _ _ (holding [v] (setAdd S v) >>= _) _ _ _
  refine wpAny_bind (wpAny_holding (wpAny_mono (h h₁ tk₁ hst.1 hst.2 fun b o hb e => hk b o (by simpa using hb) e) (fun b s₂ hs => ?_) fun _ _ e => e))
  exact wpAny_pure ⟨plainId_quiet F.plain_set_update_loop _, hs⟩
theorem upd_end (hA : A.handled = none) (hDI : D ≠ I) (hit : s.heap.IsTupleIter I D vs.size) (hl : s.heap.IsTuple D vs)
    (h : ∀ h₁ tk, (∀ b o, b ≠ I → s.heap.get? b = some o → h₁.get? b = some o) → R (.ok (.ret .none)) { s with heap := h₁, toks := tk }) :
    codeAny (model prog w) A (.builtin "set.update.loop" ⟨[.ref S, .ref I], []⟩) R s := by
  have W : Walks prog w A.in1 I [I, D] [I] vs.size _ _ := Walks.tuple (by simpa using hA) I D hDI vs
  refine codeAny_builtin F.entry_set_update_loop ?_
  rw [Around.under_plainId F.plain_set_update_loop _]
  show wpAny _ A.in1 (pyNext (.ref I) >>= _) _ _ s
  refine wpAny_bind (W.done s _ _ ⟨hit, hl⟩ fun h₁ tk₁ hk => ?_)
  show wpAny _ A.in1 (ret Value.none) _ _ _
  exact wpAny_pure (h h₁ tk₁ fun b o hb e => hk b o (by simpa using hb) e)
theorem tk_but {hp hp' : Heap} {r : Addr} {ks : List Int} (T : TK prog w hp ks r) {X : Addr} (hX : r ≠ X) (k : ∀ b o, b ≠ X → hp.get? b = some o → hp'.get? b = some o) : TK prog w hp' ks r :=
  let ⟨o, items, n, ho, r⟩ := T; ⟨o, items, n, k _ _ hX ho, r⟩
theorem SetR.but {hp hp' : Heap} {es : Array (Int × Value)} {ep : Nat} {t : SetTable} (Z : SetR prog w hp S es ep t) {X : Addr} {oX : Obj} (hS : S ≠ X) (hoX : hp.get? X = some oX) (hcX : oX.cls = .type "tuple_iterator") (k : ∀ b o, b ≠ X → hp.get? b = some o → hp'.get? b = some o) : SetR prog w hp' S es ep t := by
  refine ⟨k _ _ hS Z.at_, Z.mask, Z.dum, Z.size, Z.ok, fun e he => ?_⟩
  obtain ⟨r, ks, a, b, c⟩ := Z.el e he
  refine ⟨r, ks, a, tk_but b ?_ k, c⟩
  rintro rfl
  obtain ⟨o, _, _, ho, hc, _⟩ := b
  rw [hoX] at ho; cases ho
  rw [hcX] at hc; simp at hc
/-- adding the tuple that is there alone -/
theorem tk_add_same {ks : List Int} {r r1 : Addr} {ep : Nat} {t : SetTable} (Z : SetR prog w s.heap S #[(tupleKeyHash (intKind prog w) ks, .ref r1)] ep t) (T : TK prog w s.heap ks r) (T1 : TK prog w s.heap ks r1) (hp : t.place = #[SetTable.bits (tupleKeyHash (intKind prog w) ks) % 8]) (hu : A.units + 10 < cLine) {Q : Bool → Shared → Prop}
    (h : ∀ tk, Q false { s with toks := tk }) : wpAny (model prog w) A (setAdd S (.ref r)) Q E s := by
  unfold setAdd
  refine wpAny_holding (wpAny_bind (wpAny_pyHash_tuple (by omega) T ?_))
  unfold setAddHashed
  refine wpAny_holding ?_
  generalize tupleKeyHash (intKind prog w) ks = hh at Z hp ⊢
  generalize s.toks + (ks.length + 1) = tk
  have Z1 : SetR prog w ({ s with toks := tk } : Shared).heap S #[(hh, .ref r1)] ep t := Z
  have T1' : TK prog w ({ s with toks := tk } : Shared).heap ks r := T
  have T2' : TK prog w ({ s with toks := tk } : Shared).heap ks r1 := T1
  show wpAny _ _ (setAddHashedIn S (.ref r) hh (99999 + 1)) _ _ _
  unfold setAddHashedIn
  refine wpAny_bind (Z1.state.here ?_)
  dsimp only
  rw [if_neg (show ¬ byScan (.ref r) _ = true from Bool.false_ne_true)]
  refine wpAny_bind ?_
  unfold setSearch
  show wpAny _ _ (setSearchFrom S (.ref r) hh true (99999 + 1) none) _ _ _
  exact tk_search1 Z1 T1' T2' hp hu (wpAny_pure (h tk)) 99999
/-- the set holds this one row -/
def Sing (prog : Program) (w : World) (hp : Heap) (S : Addr) (ks : List Int) (r : Addr) : Prop := ∃ ep t, SetR prog w hp S #[(tupleKeyHash (intKind prog w) ks, .ref r)] ep t ∧ t.place = #[SetTable.bits (tupleKeyHash (intKind prog w) ks) % 8] ∧ TK prog w hp ks r
def Two (prog : Program) (w : World) (hp : Heap) (S : Addr) : Prop := ∃ es ep t, SetR prog w hp S es ep t ∧ es.size = 2
theorem SetR.setN {hp : Heap} {es : Array (Int × Value)} {ep : Nat} {t : SetTable} (Z : SetR prog w hp S es ep t) : SetN hp S es.size := ⟨_, es, ep, t, Z.at_, ⟨rfl, rfl, rfl⟩, rfl, Z.fits, rfl⟩
theorem add_first {ks : List Int} {r : Addr} {ep : Nat} {t : SetTable} (Z : SetR prog w s.heap S #[] ep t) (T : TK prog w s.heap ks r) (hu : A.units + 10 < cLine) {Q : Bool → Shared → Prop}
    (h : ∀ b h' tk, Heap.SameBut S s.heap h' → Sing prog w h' S ks r → Q b { s with heap := h', toks := tk }) : wpAny (model prog w) A (setAdd S (.ref r)) Q E s := by
  refine tk_add Z T hu ?_ ?_
  · rintro ⟨e, he, _⟩; simp at he
  · intro h' tk es' ep' t' hsb hat hsz hfit hR h0
    obtain ⟨rfl, hp⟩ := h0 rfl
    exact h true h' tk hsb ⟨ep', t', hR (by simp), hp, tk_same T Z.at_ rfl hsb⟩
theorem add_next {ks k1 : List Int} {r r1 : Addr} (Z : Sing prog w s.heap S k1 r1) (T : TK prog w s.heap ks r) (hu : A.units + 10 < cLine) {Q : Bool → Shared → Prop}
    (h : ∀ b h' tk, Heap.SameBut S s.heap h' → (ks = k1 ∧ Sing prog w h' S k1 r1) ∨ (ks ≠ k1 ∧ Two prog w h' S) → Q b { s with heap := h', toks := tk }) : wpAny (model prog w) A (setAdd S (.ref r)) Q E s := by
  obtain ⟨ep, t, Z, hp, T1⟩ := Z
  by_cases hk : ks = k1
  · subst hk
    exact tk_add_same Z T T1 hp hu fun tk => h false s.heap tk ⟨rfl, fun _ _ => rfl⟩ (.inl ⟨rfl, ep, t, Z, hp, T1⟩)
  · refine tk_add Z T hu ?_ ?_
    · rintro ⟨e, he, r', hev, T'⟩
      simp at he
      subst he
      cases hev
      exact absurd (T'.inj T1) hk
    · intro h' tk es' ep' t' hsb hat hsz hfit hR h0
      exact h true h' tk hsb (.inr ⟨hk, es', ep', t', hR (by simp), by simpa using hsz⟩)
theorem add_third {ks : List Int} {r : Addr} (Z : Two prog w s.heap S) (T : TK prog w s.heap ks r) (hu : A.units + 10 < cLine) {Q : Bool → Shared → Prop}
    (h : ∀ b h' tk N, Heap.SameBut S s.heap h' → SetN h' S N → N ≠ 1 → N ≤ 3 → Q b { s with heap := h', toks := tk }) : wpAny (model prog w) A (setAdd S (.ref r)) Q E s := by
  obtain ⟨es, ep, t, Z, hz⟩ := Z
  refine tk_add Z T hu ?_ ?_
  · intro _ tk
    exact h false s.heap tk es.size ⟨rfl, fun _ _ => rfl⟩ Z.setN (by omega) (by omega)
  · intro h' tk es' ep' t' hsb hat hsz hfit hR h0
    exact h true h' tk es'.size hsb ⟨_, es', ep', t', hat, ⟨rfl, rfl, rfl⟩, rfl, hfit, rfl⟩ (by omega) (by omega)
theorem Sing.but {hp hp' : Heap} {ks : List Int} {r : Addr} (Z : Sing prog w hp S ks r) {X : Addr} {oX : Obj} (hS : S ≠ X) (hoX : hp.get? X = some oX) (hcX : oX.cls = .type "tuple_iterator") (k : ∀ b o, b ≠ X → hp.get? b = some o → hp'.get? b = some o) : Sing prog w hp' S ks r := by
  obtain ⟨ep, t, a, b, c⟩ := Z
  refine ⟨ep, t, a.but hS hoX hcX k, b, tk_but c ?_ k⟩
  rintro rfl
  obtain ⟨o, _, _, ho, hc, _⟩ := c
  rw [hoX] at ho; cases ho
  rw [hcX] at hc; simp at hc
theorem Two.but {hp hp' : Heap} (Z : Two prog w hp S) {X : Addr} {oX : Obj} (hS : S ≠ X) (hoX : hp.get? X = some oX) (hcX : oX.cls = .type "tuple_iterator") (k : ∀ b o, b ≠ X → hp.get? b = some o → hp'.get? b = some o) : Two prog w hp' S :=
  let ⟨es, ep, t, a, b⟩ := Z; ⟨es, ep, t, a.but hS hoX hcX k, b⟩
theorem SetN.but {hp hp' : Heap} {N : Nat} (Z : SetN hp S N) {X : Addr} (hS : S ≠ X) (k : ∀ b o, b ≠ X → hp.get? b = some o → hp'.get? b = some o) : SetN hp' S N :=
  let ⟨o, es, ep, t, a, b⟩ := Z; ⟨o, es, ep, t, k _ _ hS a, b⟩
end

end

section
open PySem PySem.W PySem.Calls PyProof.Rows
set_option maxHeartbeats 4000000
/-- where the loop of set(..) stands -/
structure Stg (h₀ : Heap) (S I D : Addr) (vs : Array Value) (i : Nat) (h : Heap) : Prop where
  base : ∀ b o, h₀.get? b = some o → h.get? b = some o
  it : h.IsTupleIter I D i
  tu : h.IsTuple D vs
section
variable {prog : Program} {w : World} {A : Around} {E : Value → Shared → Prop} {s : Shared} {S I D : Addr} {vs : Array Value} {h₀ : Heap} {i : Nat}
theorem Stg.next {h h₁ : Heap} (G : Stg h₀ S I D vs i h) (hI : h₀.get? I = none) (it : h₁.IsTupleIter I D (i + 1)) (tu : h₁.IsTuple D vs) (k : ∀ b o, b ≠ I → h.get? b = some o → h₁.get? b = some o) : Stg h₀ S I D vs (i + 1) h₁ :=
  ⟨fun b o e => k b o (by rintro rfl; rw [hI] at e; cases e) (G.base b o e), it, tu⟩
theorem Stg.same {h h₁ : Heap} (G : Stg h₀ S I D vs i h) (hS : h₀.get? S = none) (hSI : I ≠ S) (hSD : D ≠ S) (k : Heap.SameBut S h h₁) : Stg h₀ S I D vs i h₁ := by
  refine ⟨fun b o e => (k.2 b (by rintro rfl; rw [hS] at e; cases e)).trans (G.base b o e), ?_, ?_⟩
  · obtain ⟨o, a, r⟩ := G.it; exact ⟨o, (k.2 I hSI).trans a, r⟩
  · obtain ⟨o, a, r⟩ := G.tu; exact ⟨o, (k.2 D hSD).trans a, r⟩
theorem Stg.iter {h : Heap} (G : Stg h₀ S I D vs i h) : ∃ o, h.get? I = some o ∧ o.cls = .type "tuple_iterator" := by
  obtain ⟨o, a, b, _⟩ := G.it; exact ⟨o, a, b⟩
theorem set_core_tup {Q : Value → Shared → Prop} {P : Heap → Prop} (hA : A.handled = none) (ht : s.heap.IsTuple D vs)
    (H : ∀ (A' : Around) tk ep t, A'.handled = none → A'.units ≤ A.units + 10 → ∀ h S I, s.heap.get? S = none → s.heap.get? I = none → I ≠ S → D ≠ S → D ≠ I → Stg s.heap S I D vs 0 h → SetR prog w h S #[] ep t → S = s.heap.objs.size →
      codeAny (model prog w) A' (.builtin "set.update.loop" ⟨[.ref S, .ref I], []⟩) (fun r s₂ => r = .ok (.ret .none) ∧ ∃ h' tk, s₂ = { s with heap := h', toks := tk } ∧ P h' ∧ (∀ b o, s.heap.get? b = some o → h'.get? b = some o)) { s with heap := h, toks := tk })
    (h : ∀ h' tk, P h' → (∀ b o, s.heap.get? b = some o → h'.get? b = some o) → Q (.ref s.heap.objs.size) { s with heap := h', toks := tk }) : wpAny (model prog w) A (call (.type "set") [.ref D]) Q E s := by
  obtain ⟨oD, hoD, hcD, hdD⟩ := id ht
  have t1 : Looks (model prog w) s.heap (typeOf (.ref D)) (.type "tuple") := hcD ▸ (Looks.ld hoD).andThen .now
  refine call_set_core (P := P) (t1.andThen (Looks.of_pure sub_tup_set)) (t1.andThen (Looks.of_pure sub_tup_fro)) t1 (by decide) hA (fun led A' hA' hu => ?_) h
  have ht' : (s.heap.push (setO led)).IsTuple D vs := ⟨oD, Heap.get?_push_of_some _ hoD, hcD, hdD⟩
  refine wpAny_pyIter_tuple ht' ?_
  have hDlt := Heap.lt_size hoD
  have hs1 : (s.heap.push (setO led)).objs.size = s.heap.objs.size + 1 := Heap.size_push ..
  dsimp only
  rw [hs1]
  have hS : (s.heap.push (setO led)).get? s.heap.objs.size = some (setO led) := Heap.get?_push_size _ rfl
  have hI : ((s.heap.push (setO led)).push { cls := .type "tuple_iterator", data := .fields #[.ref D, .int 0 0] }).get? (s.heap.objs.size + 1) = some { cls := .type "tuple_iterator", data := .fields #[.ref D, .int 0 0] } := by
    have := Heap.get?_push_size (h := s.heap.push (setO led)) (o := { cls := .type "tuple_iterator", data := .fields #[.ref D, .int 0 0] }) rfl
    rwa [hs1] at this
  refine H A' s.toks 0 (.fresh 0 0 led) hA' hu _ s.heap.objs.size (s.heap.objs.size + 1) (Heap.get?_none_of_le (Nat.le_refl _)) (Heap.get?_none_of_le (Nat.le_succ _)) (Nat.ne_of_gt (Nat.lt_succ_self _)) (Nat.ne_of_lt hDlt) (Nat.ne_of_lt (Nat.lt_succ_of_lt hDlt))
    ⟨fun b o e => Heap.get?_push_of_some _ (Heap.get?_push_of_some _ e), ⟨_, hI, rfl, rfl⟩, ⟨oD, Heap.get?_push_of_some _ (Heap.get?_push_of_some _ hoD), hcD, hdD⟩⟩
    ⟨Heap.get?_push_of_some _ hS, rfl, rfl, rfl, rfl, fun e he => by simp at he⟩ rfl
theorem set_rows2 {Q : Value → Shared → Prop} {r1 r2 : Addr} {k1 k2 : List Int} (hA : A.handled = none) (hu : A.units + 40 < cLine) (ht : s.heap.IsTuple D #[.ref r1, .ref r2]) (T1 : TK prog w s.heap k1 r1) (T2 : TK prog w s.heap k2 r2)
    (h : ∀ S h' tk N, SetN h' S N → N ≤ 3 → (N = 1 ↔ k1 = k2) → (∀ b o, s.heap.get? b = some o → h'.get? b = some o) → Q (.ref S) { s with heap := h', toks := tk }) : wpAny (model prog w) A (call (.type "set") [.ref D]) Q E s := by
  refine set_core_tup (P := fun h' => ∃ N, SetN h' s.heap.objs.size N ∧ N ≤ 3 ∧ (N = 1 ↔ k1 = k2)) hA ht (fun A' tk ep t hA' hu' hp S I hS hI hIS hDS hDI G Z hSe => ?_) fun h' tk hP hk => by obtain ⟨N, a, b, c⟩ := hP; exact h _ h' tk N a b c hk
  subst hSe
  refine upd_item (i := 0) (v := .ref r1) (s := { s with heap := hp, toks := tk }) hA' hDI G.it G.tu rfl fun hb tkb it1 tu1 kb => ?_
  obtain ⟨oI, gI, cI⟩ := G.iter
  have G1 := G.next hI it1 tu1 kb
  have Z1 := Z.but (Ne.symm hIS) gI cI kb
  refine add_first (s := { s with heap := hb, toks := tkb }) Z1 (tk_keep T1 G1.base) (by show A'.in1.units + 10 < cLine; rw [units_in1]; omega) fun _ hc tkc sbc Zc => ?_
  have Gc := G1.same hS hIS hDS sbc
  refine upd_item (i := 1) (v := .ref r2) (s := { s with heap := hc, toks := tkc }) hA' hDI Gc.it Gc.tu rfl fun hd tkd it2 tu2 kd => ?_
  obtain ⟨oI2, gI2, cI2⟩ := Gc.iter
  have G2 := Gc.next hI it2 tu2 kd
  have Z2 := Zc.but (Ne.symm hIS) gI2 cI2 kd
  refine add_next (s := { s with heap := hd, toks := tkd }) Z2 (tk_keep T2 G2.base) (by show A'.in1.units + 10 < cLine; rw [units_in1]; omega) fun _ he tke sbe Ze => ?_
  have Ge := G2.same hS hIS hDS sbe
  refine upd_end (vs := #[.ref r1, .ref r2]) (s := { s with heap := he, toks := tke }) hA' hDI Ge.it Ge.tu fun hf tkf kf => ?_
  refine ⟨rfl, hf, tkf, rfl, ?_, fun b o e => kf b o (by rintro rfl; rw [hI] at e; cases e) (Ge.base b o e)⟩
  rcases Ze with ⟨hk, ep', t', a, _⟩ | ⟨hk, es', ep', t', a, hz⟩
  · exact ⟨1, a.setN.but (Ne.symm hIS) kf, by omega, ⟨fun _ => hk.symm, fun _ => rfl⟩⟩
  · exact ⟨2, hz ▸ a.setN.but (Ne.symm hIS) kf, by omega, ⟨fun e => by omega, fun e => absurd e.symm hk⟩⟩
theorem set_rows3 {Q : Value → Shared → Prop} {r1 r2 r3 : Addr} {k1 k2 k3 : List Int} (hA : A.handled = none) (hu : A.units + 40 < cLine) (ht : s.heap.IsTuple D #[.ref r1, .ref r2, .ref r3]) (T1 : TK prog w s.heap k1 r1) (T2 : TK prog w s.heap k2 r2) (T3 : TK prog w s.heap k3 r3)
    (h : ∀ S h' tk N, SetN h' S N → N ≤ 3 → (N = 1 ↔ (k1 = k2 ∧ k1 = k3)) → (∀ b o, s.heap.get? b = some o → h'.get? b = some o) → Q (.ref S) { s with heap := h', toks := tk }) : wpAny (model prog w) A (call (.type "set") [.ref D]) Q E s := by
  refine set_core_tup (P := fun h' => ∃ N, SetN h' s.heap.objs.size N ∧ N ≤ 3 ∧ (N = 1 ↔ (k1 = k2 ∧ k1 = k3))) hA ht (fun A' tk ep t hA' hu' hp S I hS hI hIS hDS hDI G Z hSe => ?_) fun h' tk hP hk => by obtain ⟨N, a, b, c⟩ := hP; exact h _ h' tk N a b c hk
  subst hSe
  refine upd_item (i := 0) (v := .ref r1) (s := { s with heap := hp, toks := tk }) hA' hDI G.it G.tu rfl fun hb tkb it1 tu1 kb => ?_
  obtain ⟨oI, gI, cI⟩ := G.iter
  have G1 := G.next hI it1 tu1 kb
  have Z1 := Z.but (Ne.symm hIS) gI cI kb
  refine add_first (s := { s with heap := hb, toks := tkb }) Z1 (tk_keep T1 G1.base) (by show A'.in1.units + 10 < cLine; rw [units_in1]; omega) fun _ hc tkc sbc Zc => ?_
  have Gc := G1.same hS hIS hDS sbc
  refine upd_item (i := 1) (v := .ref r2) (s := { s with heap := hc, toks := tkc }) hA' hDI Gc.it Gc.tu rfl fun hd tkd it2 tu2 kd => ?_
  obtain ⟨oI2, gI2, cI2⟩ := Gc.iter
  have G2 := Gc.next hI it2 tu2 kd
  have Z2 := Zc.but (Ne.symm hIS) gI2 cI2 kd
  refine add_next (s := { s with heap := hd, toks := tkd }) Z2 (tk_keep T2 G2.base) (by show A'.in1.units + 10 < cLine; rw [units_in1]; omega) fun _ he tke sbe Ze => ?_
  have Ge := G2.same hS hIS hDS sbe
  refine upd_item (i := 2) (v := .ref r3) (s := { s with heap := he, toks := tke }) hA' hDI Ge.it Ge.tu rfl fun hf tkf it3 tu3 kf => ?_
  obtain ⟨oI3, gI3, cI3⟩ := Ge.iter
  have G3 := Ge.next hI it3 tu3 kf
  have hun : A'.in1.units + 10 < cLine := by rw [units_in1]; omega
  rcases Ze with ⟨hk, Zs⟩ | ⟨hk, Zt⟩
  · refine add_next (s := { s with heap := hf, toks := tkf }) (Zs.but (Ne.symm hIS) gI3 cI3 kf) (tk_keep T3 G3.base) hun fun _ hg tkg sbg Zg => ?_
    have Gg := G3.same hS hIS hDS sbg
    refine upd_end (vs := #[.ref r1, .ref r2, .ref r3]) (s := { s with heap := hg, toks := tkg }) hA' hDI Gg.it Gg.tu fun hh tkh kh => ?_
    refine ⟨rfl, hh, tkh, rfl, ?_, fun b o e => kh b o (by rintro rfl; rw [hI] at e; cases e) (Gg.base b o e)⟩
    rcases Zg with ⟨hk3, ep', t', a, _⟩ | ⟨hk3, es', ep', t', a, hz⟩
    · exact ⟨1, a.setN.but (Ne.symm hIS) kh, by omega, ⟨fun _ => ⟨hk.symm, hk3.symm⟩, fun _ => rfl⟩⟩
    · exact ⟨2, hz ▸ a.setN.but (Ne.symm hIS) kh, by omega, ⟨fun e => by omega, fun e => absurd e.2.symm hk3⟩⟩
  · refine add_third (s := { s with heap := hf, toks := tkf }) (Zt.but (Ne.symm hIS) gI3 cI3 kf) (tk_keep T3 G3.base) hun fun _ hg tkg N sbg Zg hN hN3 => ?_
    have Gg := G3.same hS hIS hDS sbg
    refine upd_end (vs := #[.ref r1, .ref r2, .ref r3]) (s := { s with heap := hg, toks := tkg }) hA' hDI Gg.it Gg.tu fun hh tkh kh => ?_
    refine ⟨rfl, hh, tkh, rfl, ?_, fun b o e => kh b o (by rintro rfl; rw [hI] at e; cases e) (Gg.base b o e)⟩
    exact ⟨N, Zg.but (Ne.symm hIS) kh, hN3, ⟨fun e => absurd e hN, fun e => absurd e.1.symm hk⟩⟩
end

end

section
open PySem PySem.W PySem.Calls PyProof.Rows
set_option maxHeartbeats 4000000
theorem items_of {prog : Program} {w : World} {vs : List Value} {ns : List Int} (h : IntsAre vs ns) : ItemsAre (intKind prog w) ns vs := by
  induction h with
  | nil => exact .nil
  | cons n t _ ih => exact .cons (intKind_is _ _ _ _) ih
theorem RowAt.tk {prog : Program} {w : World} {h : Heap} {r : Addr} {ns : List Int} (R : RowAt h r ns) : TK prog w h ns r := by
  obtain ⟨vs, ⟨o, a, b, n, c⟩, i⟩ := R
  exact ⟨o, vs.toArray, n, a, b, c, by simpa using items_of i⟩
theorem gives_ident2 {prog : Program} {w : World} {A : Around} {p : Program} {loose : List Str} {mg mb : Str → Option Value} {s : Shared} {r1 r2 : Addr} {n1 n2 : List Int}
    (X : (hd.heap_39 w.params).In s.heap) (T : TopRead p loose mg mb s.heap) (hA : A.handled = none) (hd : A.depth + 10 < recursionLimit) (hu : A.units + 60 < cLine)
    (R1 : RowAt s.heap r1 n1) (R2 : RowAt s.heap r2 n2) : GivesV (model prog w) A s (call (.ref 157) [.ref r1, .ref r2]) (fun _ => .bool (decide (n1 = n2))) := by
  intro Q E hQ
  refine wpAny_call ?_
  walk_at "m_enterV"
  intro D L' h₁ tk F N hDL
  replace N : News s.heap L' h₁ [(D, tupO [.ref r1, .ref r2])] := N
  k_steps
  refine set_rows2 (by walk_at "m_hand") (by walk_at "m_units") ⟨_, N.get (.head _), rfl, 0, rfl⟩ (R1.keep F.keep).tk (R2.keep F.keep).tk ?_
  intro S h' tk' M hM hM3 hMe k
  have F2 := fr_grow F k
  have N2 := news_grow N k
  clear F N
  k_steps
  refine len_set hM (by omega) ?_
  intro tk2 u
  k_steps
  have e : ((M : Int) == 1) = decide (n1 = n2) := by
    by_cases q : (n1 = n2)
    · rw [decide_eq_true q]; have := hMe.mpr q; subst this; rfl
    · rw [decide_eq_false q]
      have : M ≠ 1 := fun z => q (hMe.mp z)
      simp only [beq_eq_false_iff_ne]; omega
  rw [e]
  exact hQ 0 h' _ F2.keep
theorem gives_ident3 {prog : Program} {w : World} {A : Around} {p : Program} {loose : List Str} {mg mb : Str → Option Value} {s : Shared} {r1 r2 r3 : Addr} {n1 n2 n3 : List Int}
    (X : (hd.heap_39 w.params).In s.heap) (T : TopRead p loose mg mb s.heap) (hA : A.handled = none) (hd : A.depth + 10 < recursionLimit) (hu : A.units + 60 < cLine)
    (R1 : RowAt s.heap r1 n1) (R2 : RowAt s.heap r2 n2) (R3 : RowAt s.heap r3 n3) : GivesV (model prog w) A s (call (.ref 157) [.ref r1, .ref r2, .ref r3]) (fun _ => .bool (decide (n1 = n2 ∧ n1 = n3))) := by
  intro Q E hQ
  refine wpAny_call ?_
  walk_at "m_enterV"
  intro D L' h₁ tk F N hDL
  replace N : News s.heap L' h₁ [(D, tupO [.ref r1, .ref r2, .ref r3])] := N
  k_steps
  refine set_rows3 (by walk_at "m_hand") (by walk_at "m_units") ⟨_, N.get (.head _), rfl, 0, rfl⟩ (R1.keep F.keep).tk (R2.keep F.keep).tk (R3.keep F.keep).tk ?_
  intro S h' tk' M hM hM3 hMe k
  have F2 := fr_grow F k
  have N2 := news_grow N k
  clear F N
  k_steps
  refine len_set hM (by omega) ?_
  intro tk2 u
  k_steps
  have e : ((M : Int) == 1) = decide (n1 = n2 ∧ n1 = n3) := by
    by_cases q : (n1 = n2 ∧ n1 = n3)
    · rw [decide_eq_true q]; have := hMe.mpr q; subst this; rfl
    · rw [decide_eq_false q]
      have : M ≠ 1 := fun z => q (hMe.mp z)
      simp only [beq_eq_false_iff_ne]; omega
  rw [e]
  exact hQ 0 h' _ F2.keep

end

section
open PySem PySem.W PySem.Calls PyProof.Rows
set_option maxHeartbeats 4000000
section
variable {prog : Program} {w : World} {A : Around} {E : Value → Shared → Prop} {s : Shared} {K : Frag} {x C f p L : Addr} {ox : Obj} {od : Obj} {name : Str} {expr : Bool} {h₀ : Heap} {m : Str → Option Value} {news : List (Addr × Obj)} {es : List DictEntry} {n : Nat} {Q : Value → Shared → Prop} {t : Tok}
theorem findObj_sm {g : Value} (hh : hasDictIn K C = true) (ha : findIn K (.ref C) name = some (some (.ref p))) (hg : specialIn K (.ref p) "__get__" = some (some g)) (ht : takesIn K (.ref p) = some false) (hc : copiedNames.contains name = false) (hl : lookIn name od = some none) :
    findObj K C (some od) name = some (.bind g (.ref p)) := findObj_fn hh ha hg ht hc hl
/-- a static method asked of a made object -/
theorem get_static {fv : Value} {rest : List Value} (F : Fr h₀ L s.heap m) (X₀ : K.In h₀) (I : InstAt s.heap x ox C (some (dictOf es n))) (hg : plainGet K C name = true) (hh : hasDictIn K C = true) (ha : findIn K (.ref C) name = some (some (.ref p)))
    (hgf : specialIn K (.ref p) "__get__" = some (some (.builtin "staticmethod.__get__"))) (ht : takesIn K (.ref p) = some false) (hc : copiedNames.contains name = false) (hl : getL name es = some none) (hp : recIn K p "staticmethod" = some (fv :: rest)) (hv : handedIn fv = true)
    (h : Q fv { s with toks := s.toks + 1 }) : wpAny (model prog w) A (getAttr (.ref x) name expr) Q E s :=
  get_bind (X₀.keeps F.keep) I (plainGet_of hg).1 (findObj_sm hh ha hgf ht hc (by show lookIn name (dictOf es n) = _; rw [lookIn_dict, hl])) (plainGet_of hg).2
    (wpAny_call (sm_get (s := { s with toks := s.toks + 1 }) (X₀.keeps F.keep) hp (handed_on hv h)))
end

end

open PySem PySem.W PySem.Calls PyProof.Rows
local macro_rules | `(tactic| walk_at "getAttr ref") => `(tactic| (k_here; (with_reducible show wpAny _ _ (getAttr _ (PySem.Str.ofString "_ident") _) _ _ _); k_dflt (refine' get_static ?k1 ?k2 ?k3 ?k4 ?k5 ?k6 ?k7 ?k8 ?k9 ?k10 ?k11 ?k12 ?_; (case k1 => k_asm); (case k2 => k_asm); (case k3 => k_inst); (case k4 => k_is); (case k5 => k_is); (case k6 => k_is); (case k7 => k_is); (case k8 => k_is); (case k9 => decide +kernel); (case k10 => k_get); (case k11 => k_is); (case k12 => k_handed); k_whole)))

section
open PySem PySem.W PySem.Calls PyProof.Rows
set_option maxHeartbeats 4000000
theorem ints_empty {vs : List Value} {ns : List Int} (h : IntsAre vs ns) : vs.toArray.isEmpty = ns.isEmpty := by cases h <;> simp
section
variable {prog : Program} {w : World} {A : Around} {E : Value → Shared → Prop} {s : Shared} {I D : Addr} {R : Result → Shared → Prop} {rows : List (Addr × List Int)}
theorem all_loop (hA : A.handled = none) (hDI : D ≠ I) (hz : ∀ p ∈ rows, p.2.length ≤ 1000) : ∀ (k i : Nat) (s : Shared), rows.length - i = k → i ≤ rows.length → s.heap.IsTupleIter I D i → s.heap.IsTuple D (rows.map fun p => Value.ref p.1).toArray → (∀ p ∈ rows, p.1 ≠ I ∧ RowAt s.heap p.1 p.2) →
    (∀ h₁ tk, (∀ b o, b ≠ I → s.heap.get? b = some o → h₁.get? b = some o) → R (.ok (.ret (.bool ((rows.drop i).all fun p => !p.2.isEmpty)))) { s with heap := h₁, toks := tk }) →
    codeAny (model prog w) A (.builtin "all.loop" ⟨[.ref I], []⟩) R s := by
  intro k
  induction k with
  | zero =>
    intro i s hk hi hit hl hr hR
    have hin : i = rows.length := by omega
    have W : Walks prog w A.in1 I [I, D] [I] (rows.map fun p => Value.ref p.1).toArray.size _ _ := Walks.tuple (by simpa using hA) I D hDI (rows.map fun p => Value.ref p.1).toArray
    refine codeAny_builtin F.entry_all_loop ?_
    rw [Around.under_plainId F.plain_all_loop _]
    show wpAny _ A.in1 (pyNext (.ref I) >>= _) _ _ s
    have hit' : s.heap.IsTupleIter I D (rows.map fun p => Value.ref p.1).toArray.size := by simpa [hin] using hit
    refine wpAny_bind (W.done s _ _ ⟨hit', hl⟩ fun h₁ tk₁ hk1 => ?_)
    dsimp only
    refine wpAny_bind (wpAny_rule ?_)
    have := hR h₁ tk₁ fun b o hb e => hk1 b o (by simpa using hb) e
    rw [hin, List.drop_length] at this
    exact wpAny_pure this
  | succ k ih =>
    intro i s hk hi hit hl hr hR
    have hlt : i < rows.length := by omega
    have W : Walks prog w A.in1 I [I, D] [I] (rows.map fun p => Value.ref p.1).toArray.size _ _ := Walks.tuple (by simpa using hA) I D hDI (rows.map fun p => Value.ref p.1).toArray
    refine codeAny_builtin F.entry_all_loop ?_
    rw [Around.under_plainId F.plain_all_loop _]
    show wpAny _ A.in1 (pyNext (.ref I) >>= _) _ _ s
    refine wpAny_bind (W.item i s _ _ (by simpa using hlt) ⟨hit, hl⟩ fun v h₁ tk₁ hP hst hk1 => ?_)
    have hv : v = .ref rows[i].1 := by simpa [hlt] using hP.symm
    subst hv
    have kk : ∀ b o, b ≠ I → s.heap.get? b = some o → h₁.get? b = some o := fun b o hb e => hk1 b o (by simpa using hb) e
    have hmem : rows[i] ∈ rows := List.getElem_mem hlt
    obtain ⟨hne, vs, ⟨o, a, b, c⟩, hi'⟩ := hr _ hmem
    have hT : IsTup h₁ rows[i].1 vs.toArray := ⟨o, kk _ _ hne a, b, c⟩
    have hlen : vs.length = rows[i].2.length := IntsAre.length hi'
    have hz' := hz _ hmem
    show wpAny _ _ (holding [Value.ref rows[i].1] (truthy (Value.ref rows[i].1)) >>= _) _ _ _
    refine wpAny_bind (wpAny_holding (truthy_tuple (s := { s with heap := h₁, toks := tk₁ }) hT (by rw [List.size_toArray]; omega) ?_))
    rw [ints_empty hi']
    refine wpAny_bind (wpAny_letGo ?_)
    have hdrop : (rows.drop i).all (fun p => !p.2.isEmpty) = (!rows[i].2.isEmpty && (rows.drop (i + 1)).all fun p => !p.2.isEmpty) := by
      rw [List.drop_eq_getElem_cons hlt, List.all_cons]
    cases he : rows[i].2.isEmpty with
    | true =>
      simp only [Bool.not_true, Bool.false_eq_true, if_false]
      refine wpAny_bind (wpAny_rule ?_)
      have := hR h₁ (tk₁ + 1 + 1) kk
      rw [hdrop, he] at this
      exact wpAny_pure this
    | false =>
      simp only [Bool.not_false, if_true]
      refine wpAny_pure ⟨plainId_quiet F.plain_all_loop _, ih (i + 1) _ (by omega) hlt hst.1 hst.2 (fun p hp => ?_) fun h₂ tk₂ k2 => ?_⟩
      · obtain ⟨h1, vs, ⟨o, a, b⟩, c⟩ := hr p hp
        exact ⟨h1, vs, ⟨o, kk _ _ h1 a, b⟩, c⟩
      · have := hR h₂ tk₂ fun b o hb e => k2 b o hb (kk b o hb e)
        rw [hdrop, he] at this
        exact this
theorem all_tup {Q : Value → Shared → Prop} (hA : A.handled = none) (hl : s.heap.IsTuple D (rows.map fun p => Value.ref p.1).toArray) (hz : ∀ p ∈ rows, p.2.length ≤ 1000) (hr : ∀ p ∈ rows, RowAt s.heap p.1 p.2)
    (h : ∀ h₁ tk, (∀ b o, s.heap.get? b = some o → h₁.get? b = some o) → Q (.bool (rows.all fun p => !p.2.isEmpty)) { s with heap := h₁, toks := tk }) : wpAny (model prog w) A (call (.builtin "all") [.ref D]) Q E s := by
  refine call_function_tree F.kind_all F.plain_all F.entry_all (F.args_all1 _) ?_
  unfold Builtin.«all»
  refine wpAny_bind (m := oneArg "all" _) (wpAny_pure ?_)
  have hDlt : D < s.heap.objs.size := let ⟨_, e, _⟩ := hl; Heap.lt_size e
  refine wpAny_bind (wpAny_pyIter_tuple hl ?_)
  have up : ∀ b o, s.heap.get? b = some o → (s.heap.push { cls := .type "tuple_iterator", data := .fields #[.ref D, .int 0 0] }).get? b = some o := fun b o e => Heap.get?_push_of_some _ e
  refine wpAny_pure ⟨plainId_quiet F.plain_all_loop _, all_loop (by simpa using hA) (Nat.ne_of_lt hDlt) hz (rows.length - 0) 0 _ rfl (Nat.zero_le _) ⟨_, Heap.get?_push_size _ rfl, rfl, rfl⟩ ?_ (fun p hp => ⟨?_, (hr p hp).keep up⟩) fun h₁ tk k => ?_⟩
  · obtain ⟨o, a, b⟩ := hl; exact ⟨o, up _ _ a, b⟩
  · obtain ⟨vs, ⟨o, a, _⟩, _⟩ := hr p hp
    exact Nat.ne_of_lt (Heap.lt_size a)
  · have := h h₁ tk fun b o e => k b o (Nat.ne_of_lt (Heap.lt_size e)) (up b o e)
    simpa using this
end

end

section
open PySem PySem.W PySem.Calls PyProof.Rows
set_option maxHeartbeats 4000000
local macro_rules | `(tactic| k_is) => `(tactic| with_reducible assumption)
local macro_rules | `(tactic| k_get) => `(tactic| with_reducible assumption)
local macro_rules | `(tactic| walk_at "call ref cons nil") => `(tactic| (k_here; (with_reducible show wpAny _ _ (call (Value.ref _) _ _) _ _ _); refine Halt.out ?_))
local macro_rules | `(tactic| walk_at "call builtin:all cons nil") => `(tactic| (k_here; (with_reducible show wpAny _ _ (call (Value.builtin "all") [Value.ref _] _) _ _ _); refine Halt.out ?_))
local macro_rules | `(tactic| walk_at "call builtin:sum cons nil") => `(tactic| (k_here; (with_reducible show wpAny _ _ (call (Value.builtin "sum") [Value.ref _] _) _ _ _); refine Halt.out ?_))
local macro_rules | `(tactic| walk_at "eval GeneratorExp Call cons") => `(tactic| (k_here; (with_reducible show wpAny _ _ (eval (Expr.GeneratorExp _ _ _ _) _) _ _ _); refine Halt.out ?_))
local macro_rules | `(tactic| walk_at "getAttr ref true") => `(tactic| (k_here; (with_reducible show wpAny _ _ (getAttr (Value.ref _) (PySem.Str.ofString "_get_sequences") _) _ _ _); refine Halt.out ?_))
local macro_rules | `(tactic| walk_at "binaryOp Div int int") => `(tactic| (k_here; (with_reducible show wpAny _ _ (binaryOp Operator.Div _ _) _ _ _); refine Halt.out ?_))
local macro_rules | `(tactic| walk_at "binaryOp Div float int") => `(tactic| (k_here; (with_reducible show wpAny _ _ (binaryOp Operator.Div _ _) _ _ _); refine Halt.out ?_))
local macro_rules | `(tactic| walk_at "binaryOp Mult float int") => `(tactic| (k_here; (with_reducible show wpAny _ _ (binaryOp Operator.Mult (Value.float _ _) _) _ _ _); refine Halt.out ?_))
local macro_rules | `(tactic| walk_at "call builtin:min cons nil") => `(tactic| (k_here; (with_reducible show wpAny _ _ (call (Value.builtin "min") [Value.ref _] _) _ _ _); refine Halt.out ?_))
theorem gives_max2 {prog : Program} {w : World} {A : Around} {p : Program} {loose : List Str} {mg mb : Str → Option Value} {s : Shared} {f x r1 r2 : Addr} (hf : f = 260 ∨ f = 294 ∨ f = 328 ∨ f = 360)
    (X : (hd.heap_39 w.params).In s.heap) (T : TopRead p loose mg mb s.heap) (hd : A.depth + 10 < recursionLimit) : CodeV (model prog w) A s (.call (.ref f) ⟨[.ref x, .ref r1, .ref r2], []⟩) (fun u => .int 1 u) := by
  intro Q E hQ
  rcases hf with rfl | rfl | rfl | rfl
  all_goals (
    walk_at "m_enterV"
    intro D L' h₁ tk F N hDL
    k_steps
    all_goals (try (with_reducible show Halt (wpAny _ _ _ _ _ _); refine Halt.mk ?_))
    exact hQ _ h₁ _ F.keep)
theorem gives_quick2 {prog : Program} {w : World} {A : Around} {p : Program} {loose : List Str} {mg mb : Str → Option Value} {s : Shared} {x dx C r1 r2 : Addr} {es : List DictEntry} {n : Nat} {b : Bool} {n1 n2 : List Int}
    (X : (hd.heap_39 w.params).In s.heap) (T : TopRead p loose mg mb s.heap) (hA : A.handled = none) (hd : A.depth + 20 < recursionLimit) (hu : A.units + 90 < cLine)
    (M : Meas s.heap x dx C es n) (K : MK w b C es) (R1 : RowAt s.heap r1 n1) (R2 : RowAt s.heap r2 n2) (hz1 : n1.length ≤ 100) (hz2 : n2.length ≤ 100) :
    CodeV (model prog w) A s (.call (.ref 233) ⟨[.ref x, .ref r1, .ref r2], []⟩) (fun u => if n1 = n2 then .int 1 u else if n1 = [] ∨ n2 = [] then .int 0 u else .none) := by
  intro Q E hQ
  walk_at "m_enterV"
  intro D L' h₁ tk F N hDL
  replace N : News s.heap L' h₁ [(D, tupO [.ref r1, .ref r2])] := N
  obtain ⟨q1, q2, q3, q4⟩ := K.ident
  obtain ⟨f, hf, m1, m2, m3, m4, m5, m6, m7⟩ := K.maximum
  (
    k_steps
    all_goals (try (with_reducible show Halt (wpAny _ _ _ _ _ _); refine Halt.mk ?_))
    (with_reducible rename Fr _ _ _ _ => Fz)
    (with_reducible rename News _ _ _ _ => Nz)
    refine gives_ident2 (X.keeps Fz.keep) (T.keeps Fz.keep) (by walk_at "m_hand") (by k_room) (by walk_at "m_units") (R1.keep Fz.keep) (R2.keep Fz.keep) _ _ ?_
    intro u h' tk' k
    have F2 := fr_grow Fz k
    have N2 := news_grow Nz k
    clear Fz Nz
    by_cases hq : n1 = n2
    · rw [decide_eq_true hq]
      k_steps
      all_goals (try (with_reducible show Halt (wpAny _ _ _ _ _ _); refine Halt.mk ?_))
      (with_reducible rename Fr _ _ _ _ => Fy)
      (with_reducible rename News _ _ _ _ => Ny)
      refine call_bound Ny (.head _) (gives_max2 hf (X.keeps Fy.keep) (T.keeps Fy.keep) (by k_room) _ _ ?_)
      intro u2 h2 tk2 k2
      have F3 := fr_grow Fy k2
      k_steps
      all_goals (try (with_reducible show Halt (wpAny _ _ _ _ _ _); refine Halt.mk ?_))
      exact (show ∀ u tk, RQ Q E (.ok (.ret (.int 1 u))) { s with heap := h2, toks := tk } from fun u tk => by have q := hQ u h2 tk F3.keep; dsimp only at q; rw [if_pos hq] at q; exact q) _ _
    · rw [decide_eq_false hq]
      k_steps
      all_goals (try (with_reducible show Halt (wpAny _ _ _ _ _ _); refine Halt.mk ?_))
      (with_reducible rename Fr _ _ _ _ => Fy)
      (with_reducible rename News _ _ _ _ => Ny)
      refine all_tup (rows := [(r1, n1), (r2, n2)]) (by walk_at "m_hand") ⟨_, Ny.get (.head _), rfl, 0, rfl⟩ (by simp; omega) ?_ ?_
      · intro p hp
        simp only [List.mem_cons, List.not_mem_nil, or_false] at hp
        rcases hp with rfl | rfl
        all_goals first | exact R1.keep Fy.keep | exact R2.keep Fy.keep | exact R2.keep Fy.keep
      · intro h2 tk2 k2
        have F3 := fr_grow Fy k2
        have N3 := news_grow Ny k2
        clear Fy Ny
        by_cases hm : n1 = [] ∨ n2 = []
        · have e : ([(r1, n1), (r2, n2)] : List (Addr × List Int)).all (fun p => !p.2.isEmpty) = false := by
            rcases hm with rfl | rfl <;> simp
          rw [e]
          k_steps
          all_goals (try (with_reducible show Halt (wpAny _ _ _ _ _ _); refine Halt.mk ?_))
          exact (show ∀ u tk, RQ Q E (.ok (.ret (.int 0 u))) { s with heap := h2, toks := tk } from fun u tk => by have q := hQ u h2 tk F3.keep; dsimp only at q; rw [if_neg hq, if_pos hm] at q; exact q) _ _
        · have e : ([(r1, n1), (r2, n2)] : List (Addr × List Int)).all (fun p => !p.2.isEmpty) = true := by
            simp only [not_or] at hm
            simp [hm]
          rw [e]
          k_steps
          all_goals (try (with_reducible show Halt (wpAny _ _ _ _ _ _); refine Halt.mk ?_))
          exact (show ∀ tk, RQ Q E (.ok (.ret .none)) { s with heap := h2, toks := tk } from fun tk => by have q := hQ 0 h2 tk F3.keep; dsimp only at q; rw [if_neg hq, if_neg hm] at q; exact q) _)
theorem gives_max3 {prog : Program} {w : World} {A : Around} {p : Program} {loose : List Str} {mg mb : Str → Option Value} {s : Shared} {f x r1 r2 r3 : Addr} (hf : f = 260 ∨ f = 294 ∨ f = 328 ∨ f = 360)
    (X : (hd.heap_39 w.params).In s.heap) (T : TopRead p loose mg mb s.heap) (hd : A.depth + 10 < recursionLimit) : CodeV (model prog w) A s (.call (.ref f) ⟨[.ref x, .ref r1, .ref r2, .ref r3], []⟩) (fun u => .int 1 u) := by
  intro Q E hQ
  rcases hf with rfl | rfl | rfl | rfl
  all_goals (
    walk_at "m_enterV"
    intro D L' h₁ tk F N hDL
    k_steps
    all_goals (try (with_reducible show Halt (wpAny _ _ _ _ _ _); refine Halt.mk ?_))
    exact hQ _ h₁ _ F.keep)
theorem gives_quick3 {prog : Program} {w : World} {A : Around} {p : Program} {loose : List Str} {mg mb : Str → Option Value} {s : Shared} {x dx C r1 r2 r3 : Addr} {es : List DictEntry} {n : Nat} {b : Bool} {n1 n2 n3 : List Int}
    (X : (hd.heap_39 w.params).In s.heap) (T : TopRead p loose mg mb s.heap) (hA : A.handled = none) (hd : A.depth + 20 < recursionLimit) (hu : A.units + 90 < cLine)
    (M : Meas s.heap x dx C es n) (K : MK w b C es) (R1 : RowAt s.heap r1 n1) (R2 : RowAt s.heap r2 n2) (R3 : RowAt s.heap r3 n3) (hz1 : n1.length ≤ 100) (hz2 : n2.length ≤ 100) (hz3 : n3.length ≤ 100) :
    CodeV (model prog w) A s (.call (.ref 233) ⟨[.ref x, .ref r1, .ref r2, .ref r3], []⟩) (fun u => if n1 = n2 ∧ n1 = n3 then .int 1 u else if n1 = [] ∨ n2 = [] ∨ n3 = [] then .int 0 u else .none) := by
  intro Q E hQ
  walk_at "m_enterV"
  intro D L' h₁ tk F N hDL
  replace N : News s.heap L' h₁ [(D, tupO [.ref r1, .ref r2, .ref r3])] := N
  obtain ⟨q1, q2, q3, q4⟩ := K.ident
  obtain ⟨f, hf, m1, m2, m3, m4, m5, m6, m7⟩ := K.maximum
  (
    k_steps
    all_goals (try (with_reducible show Halt (wpAny _ _ _ _ _ _); refine Halt.mk ?_))
    (with_reducible rename Fr _ _ _ _ => Fz)
    (with_reducible rename News _ _ _ _ => Nz)
    refine gives_ident3 (X.keeps Fz.keep) (T.keeps Fz.keep) (by walk_at "m_hand") (by k_room) (by walk_at "m_units") (R1.keep Fz.keep) (R2.keep Fz.keep) (R3.keep Fz.keep) _ _ ?_
    intro u h' tk' k
    have F2 := fr_grow Fz k
    have N2 := news_grow Nz k
    clear Fz Nz
    by_cases hq : n1 = n2 ∧ n1 = n3
    · rw [decide_eq_true hq]
      k_steps
      all_goals (try (with_reducible show Halt (wpAny _ _ _ _ _ _); refine Halt.mk ?_))
      (with_reducible rename Fr _ _ _ _ => Fy)
      (with_reducible rename News _ _ _ _ => Ny)
      refine call_bound Ny (.head _) (gives_max3 hf (X.keeps Fy.keep) (T.keeps Fy.keep) (by k_room) _ _ ?_)
      intro u2 h2 tk2 k2
      have F3 := fr_grow Fy k2
      k_steps
      all_goals (try (with_reducible show Halt (wpAny _ _ _ _ _ _); refine Halt.mk ?_))
      exact (show ∀ u tk, RQ Q E (.ok (.ret (.int 1 u))) { s with heap := h2, toks := tk } from fun u tk => by have q := hQ u h2 tk F3.keep; dsimp only at q; rw [if_pos hq] at q; exact q) _ _
    · rw [decide_eq_false hq]
      k_steps
      all_goals (try (with_reducible show Halt (wpAny _ _ _ _ _ _); refine Halt.mk ?_))
      (with_reducible rename Fr _ _ _ _ => Fy)
      (with_reducible rename News _ _ _ _ => Ny)
      refine all_tup (rows := [(r1, n1), (r2, n2), (r3, n3)]) (by walk_at "m_hand") ⟨_, Ny.get (.head _), rfl, 0, rfl⟩ (by simp; omega) ?_ ?_
      · intro p hp
        simp only [List.mem_cons, List.not_mem_nil, or_false] at hp
        rcases hp with rfl | rfl | rfl
        all_goals first | exact R1.keep Fy.keep | exact R2.keep Fy.keep | exact R3.keep Fy.keep
      · intro h2 tk2 k2
        have F3 := fr_grow Fy k2
        have N3 := news_grow Ny k2
        clear Fy Ny
        by_cases hm : n1 = [] ∨ n2 = [] ∨ n3 = []
        · have e : ([(r1, n1), (r2, n2), (r3, n3)] : List (Addr × List Int)).all (fun p => !p.2.isEmpty) = false := by
            rcases hm with rfl | rfl | rfl <;> simp
          rw [e]
          k_steps
          all_goals (try (with_reducible show Halt (wpAny _ _ _ _ _ _); refine Halt.mk ?_))
          exact (show ∀ u tk, RQ Q E (.ok (.ret (.int 0 u))) { s with heap := h2, toks := tk } from fun u tk => by have q := hQ u h2 tk F3.keep; dsimp only at q; rw [if_neg hq, if_pos hm] at q; exact q) _ _
        · have e : ([(r1, n1), (r2, n2), (r3, n3)] : List (Addr × List Int)).all (fun p => !p.2.isEmpty) = true := by
            simp only [not_or] at hm
            simp [hm]
          rw [e]
          k_steps
          all_goals (try (with_reducible show Halt (wpAny _ _ _ _ _ _); refine Halt.mk ?_))
          exact (show ∀ tk, RQ Q E (.ok (.ret .none)) { s with heap := h2, toks := tk } from fun tk => by have q := hQ 0 h2 tk F3.keep; dsimp only at q; rw [if_neg hq, if_neg hm] at q; exact q) _)

end

section
local macro_rules | `(tactic| walk_at "pad") => `(tactic| fail)
open PySem PySem.W PySem.Calls PyProof.Rows
set_option maxHeartbeats 4000000
local macro_rules | `(tactic| walk_at "call ref cons nil") => `(tactic| (k_here; (with_reducible show wpAny _ _ (call (Value.ref _) _ _) _ _ _); refine Halt.out ?_))
local macro_rules | `(tactic| walk_at "call builtin:all cons nil") => `(tactic| (k_here; (with_reducible show wpAny _ _ (call (Value.builtin "all") [Value.ref _] _) _ _ _); refine Halt.out ?_))
local macro_rules | `(tactic| walk_at "call builtin:sum cons nil") => `(tactic| (k_here; (with_reducible show wpAny _ _ (call (Value.builtin "sum") [Value.ref _] _) _ _ _); refine Halt.out ?_))
local macro_rules | `(tactic| walk_at "eval GeneratorExp Call cons") => `(tactic| (k_here; (with_reducible show wpAny _ _ (eval (Expr.GeneratorExp _ _ _ _) _) _ _ _); refine Halt.out ?_))
local macro_rules | `(tactic| walk_at "getAttr ref true") => `(tactic| (k_here; (with_reducible show wpAny _ _ (getAttr (Value.ref _) (PySem.Str.ofString "_get_sequences") _) _ _ _); refine Halt.out ?_))
local macro_rules | `(tactic| walk_at "binaryOp Div int int") => `(tactic| (k_here; (with_reducible show wpAny _ _ (binaryOp Operator.Div _ _) _ _ _); refine Halt.out ?_))
local macro_rules | `(tactic| walk_at "binaryOp Div float int") => `(tactic| (k_here; (with_reducible show wpAny _ _ (binaryOp Operator.Div _ _) _ _ _); refine Halt.out ?_))
local macro_rules | `(tactic| walk_at "binaryOp Mult float int") => `(tactic| (k_here; (with_reducible show wpAny _ _ (binaryOp Operator.Mult (Value.float _ _) _) _ _ _); refine Halt.out ?_))
local macro_rules | `(tactic| walk_at "call builtin:min cons nil") => `(tactic| (k_here; (with_reducible show wpAny _ _ (call (Value.builtin "min") [Value.ref _] _) _ _ _); refine Halt.out ?_))
theorem ctr_led {h₀ h : Heap} {L x dx : Addr} {news : List (Addr × Obj)} {es : List DictEntry} {n : Nat} {c : List (Int × Int)} (N : News h₀ L h news) (h1 : (x, ctrO dx es.toArray n) ∈ news) (h2 : (dx, dictOf [] 0) ∈ news) (he : Ents es c) (hs : (x == sysModules) = false) (hn : (c.map (·.1)).Nodup) (hz : c.length ≤ 1000) : CAt h x c :=
  ⟨⟨dx, es, n, N.get h1, N.get h2, he⟩, hs, hn, hz⟩
theorem cnt_small {ns : List Int} (h : ns.length ≤ 100) : (cnt ns).length ≤ 100 := Nat.le_trans (cnt_len ns) h
/-- the quotient of two whole numbers, as a float -/
def quo (a b : Int) : UInt64 := Float64.ofFrac (decide (a < 0) != decide (b < 0)) a.natAbs b.natAbs
/-- Jaccard's answer -/
def jv2 (b : Bool) (n1 n2 : List Int) (u : Tok) : Value := if n1 = n2 then .int 1 u else if n1 = [] ∨ n2 = [] then .int 0 u else .float (quo (cc b (cand (cnt n1) (cnt n2))) (cc b (cor (cnt n1) (cnt n2)))) u
theorem gives_jac2 {prog : Program} {w : World} {A : Around} {p : Program} {loose : List Str} {mg mb : Str → Option Value} {bm : Addr} {ob : Obj} {s : Shared} {x dx r1 r2 : Addr} {n : Nat} {b : Bool} {n1 n2 : List Int} {tq t1 t2 t3 : Tok}
    (B : Bas w p loose mg mb bm ob s.heap) (hG : AllBare s.gens) (hA : A.handled = none) (hd : A.depth + 30 < recursionLimit) (hu : A.units + 150 < cLine)
    (M : Meas s.heap x dx 270 (attr3 w b tq t1 t2 t3) n) (R1 : RowAt s.heap r1 n1) (R2 : RowAt s.heap r2 n2) (hz1 : n1.length ≤ 100) (hz2 : n2.length ≤ 100)
    (hpos : n1 ≠ [] → cc b (cor (cnt n1) (cnt n2)) ≠ 0) (hfit : (cc b (cand (cnt n1) (cnt n2))).natAbs < 2 ^ 1023) :
    CodeT (model prog w) A s (.call (.ref 267) ⟨[.ref x, .ref r1, .ref r2], []⟩) (fun v n => ∃ u, v = jv2 b n1 n2 u ∧ RecT v n) := by
  intro Q E hQ
  have X := B.X
  have T := B.T
  walk_at "m_enterV"
  intro D L' h₁ tk F N hDL
  replace N : News s.heap L' h₁ [(D, tupO [.ref r1, .ref r2])] := N
  k_steps
  all_goals (try (with_reducible show Halt (wpAny _ _ _ _ _ _); refine Halt.mk ?_))
  (with_reducible rename Fr _ _ _ _ => Fz)
  (with_reducible rename News _ _ _ _ => Nz)
  refine call_bound Nz (.head _) (gives_quick2 (X.keeps Fz.keep) (T.keeps Fz.keep) (by walk_at "m_hand") (by k_room) (by walk_at "m_units") (M.keep Fz.keep) (.j ..) (R1.keep Fz.keep) (R2.keep Fz.keep) hz1 hz2 _ _ ?_)
  intro u h2 tk2 k2
  have F2 := fr_grow Fz k2
  have N2 := news_grow Nz k2
  clear Fz Nz
  dsimp only
  by_cases hq : n1 = n2
  · rw [if_pos hq]
    k_steps
    all_goals (try (with_reducible show Halt (wpAny _ _ _ _ _ _); refine Halt.mk ?_))
    (with_reducible rename Fr _ _ _ _ => Fx)
    exact hQ _ _ rfl hG (.of_keep Fx.keep) (B.t.keep Fx.keep) ⟨u, by unfold jv2; rw [if_pos hq], trivial⟩
  · rw [if_neg hq]
    by_cases hm : n1 = [] ∨ n2 = []
    · rw [if_pos hm]
      k_steps
      all_goals (try (with_reducible show Halt (wpAny _ _ _ _ _ _); refine Halt.mk ?_))
      (with_reducible rename Fr _ _ _ _ => Fx)
      exact hQ _ _ rfl hG (.of_keep Fx.keep) (B.t.keep Fx.keep) ⟨u, by unfold jv2; rw [if_neg hq, if_pos hm], trivial⟩
    · rw [if_neg hm]
      k_steps
      all_goals (try (with_reducible show Halt (wpAny _ _ _ _ _ _); refine Halt.mk ?_))
      (with_reducible rename Fr _ _ _ _ => Fy)
      (with_reducible rename News _ _ _ _ => Ny)
      refine call_bound Ny (.head _) (gives_ctrs2 (B.keep Fy.keep) ?hg (by walk_at "m_hand") (by k_room) (by walk_at "m_units") (M.keep Fy.keep) (.j ..) (R1.keep Fy.keep) (R2.keep Fy.keep) hz1 hz2 _ _ ?_)
      case hg => exact hG
      rintro v s' hos' hG' sf' tb' ⟨l, c1, c2, rfl, ⟨⟨oc, od, odt, osl⟩, hlo, hlc, ln, hld⟩, hl0, C1, C2⟩
      dsimp only at hlc hld
      subst hlc hld
      obtain ⟨hB, sfB, tB, FB, hN, hdom⟩ := rebase B.t Fy sf' tb'
      obtain ⟨dx1, es1, m1, a1, b1, a10, b10, e1⟩ := C1.ex
      obtain ⟨dx2, es2, m2, a2, b2, a20, b20, e2⟩ := C2.ex
      have NB := news_fresh Fy hdom (news_fresh Fy hdom (news_fresh Fy hdom (news_fresh Fy hdom (news_fresh Fy hdom (hN _ Ny) b2 b20) a2 a20) b1 b10) a1 a10) hl0 hlo
      have BB := B.soft sfB tB
      have XB := BB.X
      have TB := BB.T
      have MB := sfB.meas B.t M
      clear Fy Ny hN X T
      k_steps
      all_goals (try (with_reducible show Halt (wpAny _ _ _ _ _ _); refine Halt.mk ?_))
      (with_reducible rename Fr _ _ _ _ => Fx)
      (with_reducible rename News _ _ _ _ => Nx)
      have Q1 := ctr_led Nx (x := c1) (by k_mem) (by k_mem) e1 C1.sys C1.nodup C1.small
      have Q2 := ctr_led Nx (x := c2) (by k_mem) (by k_mem) e2 C2.sys C2.nodup C2.small
      refine call_bound Nx (.head _) (gives_inter2 (XB.keeps Fx.keep) (TB.keeps Fx.keep) (BB.S.keep Fx.keep) (by walk_at "m_hand") (by k_room) (by walk_at "m_units") Q1 Q2 _ _ ?_)
      intro y hy tky ky Cy
      obtain ⟨dxy, esy, my, y1, y2, y3, y4, ey⟩ := Cy.ex
      have F3 := fr_grow Fx ky
      have N3 := news_add Fx (news_add Fx (news_grow Nx ky) y2 y4) y1 y3
      clear Fx Nx Q1 Q2
      k_steps
      all_goals (try (with_reducible show Halt (wpAny _ _ _ _ _ _); refine Halt.mk ?_))
      (with_reducible rename Fr _ _ _ _ => Fx)
      (with_reducible rename News _ _ _ _ => Nx)
      have Qy := ctr_led Nx (x := y) (by k_mem) (by k_mem) ey Cy.sys Cy.nodup Cy.small
      refine gives_count (XB.keeps Fx.keep) (TB.keeps Fx.keep) (by walk_at "m_hand") (by k_room) (by walk_at "m_units") (MB.keep Fx.keep) (.j ..) Qy _ _ ?_
      intro uc hc tkc kc
      have F4 := fr_grow Fx kc
      have N4 := news_grow Nx kc
      clear Fx Nx Qy
      k_steps
      all_goals (try (with_reducible show Halt (wpAny _ _ _ _ _ _); refine Halt.mk ?_))
      (with_reducible rename Fr _ _ _ _ => Fx)
      (with_reducible rename News _ _ _ _ => Nx)
      have Q1 := ctr_led Nx (x := c1) (by k_mem) (by k_mem) e1 C1.sys C1.nodup C1.small
      have Q2 := ctr_led Nx (x := c2) (by k_mem) (by k_mem) e2 C2.sys C2.nodup C2.small
      refine call_bound Nx (.head _) (gives_union2 (XB.keeps Fx.keep) (TB.keeps Fx.keep) (BB.S.keep Fx.keep) (by walk_at "m_hand") (by k_room) (by walk_at "m_units") Q1 Q2 (cnt_small hz1) (cnt_small hz2) _ _ ?_)
      intro z hy2 tky2 ky2 Cz
      obtain ⟨dxz, esz, mz, z1, z2, z3, z4, ez⟩ := Cz.ex
      have F5 := fr_grow Fx ky2
      have N5 := news_add Fx (news_add Fx (news_grow Nx ky2) z2 z4) z1 z3
      clear Fx Nx Q1 Q2
      k_steps
      all_goals (try (with_reducible show Halt (wpAny _ _ _ _ _ _); refine Halt.mk ?_))
      (with_reducible rename Fr _ _ _ _ => Fx)
      (with_reducible rename News _ _ _ _ => Nx)
      have Qz := ctr_led Nx (x := z) (by k_mem) (by k_mem) ez Cz.sys Cz.nodup Cz.small
      refine gives_count (XB.keeps Fx.keep) (TB.keeps Fx.keep) (by walk_at "m_hand") (by k_room) (by walk_at "m_units") (MB.keep Fx.keep) (.j ..) Qz _ _ ?_
      intro ud hd2 tkd kd
      have F6 := fr_grow Fx kd
      have N6 := news_grow Nx kd
      clear Fx Nx Qz
      k_steps
      all_goals (try (with_reducible show Halt (wpAny _ _ _ _ _ _); refine Halt.mk ?_))
      dsimp only
      refine PySem.Flt.div_ii_fits (by walk_at "m_hand") hfit (fun e => absurd e (hpos fun z => hm (.inl z))) (fun _ _ => ?_)
      k_steps
      all_goals (try (with_reducible show Halt (wpAny _ _ _ _ _ _); refine Halt.mk ?_))
      (with_reducible rename Fr _ _ _ _ => Fx)
      exact hQ _ _ hos' hG' (sfB.then_keep Fx.keep) (tB.keep Fx.keep) ⟨_, by unfold jv2; rw [if_neg hq, if_neg hm]; rfl, .flt (by (try dsimp only); omega)⟩
/-- Jaccard's answer -/
def jv3 (b : Bool) (n1 n2 n3 : List Int) (u : Tok) : Value := if n1 = n2 ∧ n1 = n3 then .int 1 u else if n1 = [] ∨ n2 = [] ∨ n3 = [] then .int 0 u else .float (quo (cc b (cand (cand (cnt n1) (cnt n2)) (cnt n3))) (cc b (cor (cor (cnt n1) (cnt n2)) (cnt n3)))) u
theorem gives_jac3 {prog : Program} {w : World} {A : Around} {p : Program} {loose : List Str} {mg mb : Str → Option Value} {bm : Addr} {ob : Obj} {s : Shared} {x dx r1 r2 r3 : Addr} {n : Nat} {b : Bool} {n1 n2 n3 : List Int} {tq t1 t2 t3 : Tok}
    (B : Bas w p loose mg mb bm ob s.heap) (hG : AllBare s.gens) (hA : A.handled = none) (hd : A.depth + 30 < recursionLimit) (hu : A.units + 150 < cLine)
    (M : Meas s.heap x dx 270 (attr3 w b tq t1 t2 t3) n) (R1 : RowAt s.heap r1 n1) (R2 : RowAt s.heap r2 n2) (R3 : RowAt s.heap r3 n3) (hz1 : n1.length ≤ 100) (hz2 : n2.length ≤ 100) (hz3 : n3.length ≤ 100)
    (hpos : n1 ≠ [] → cc b (cor (cor (cnt n1) (cnt n2)) (cnt n3)) ≠ 0) (hfit : (cc b (cand (cand (cnt n1) (cnt n2)) (cnt n3))).natAbs < 2 ^ 1023) :
    CodeT (model prog w) A s (.call (.ref 267) ⟨[.ref x, .ref r1, .ref r2, .ref r3], []⟩) (fun v n => ∃ u, v = jv3 b n1 n2 n3 u ∧ RecT v n) := by
  intro Q E hQ
  have X := B.X
  have T := B.T
  walk_at "m_enterV"
  intro D L' h₁ tk F N hDL
  replace N : News s.heap L' h₁ [(D, tupO [.ref r1, .ref r2, .ref r3])] := N
  k_steps
  all_goals (try (with_reducible show Halt (wpAny _ _ _ _ _ _); refine Halt.mk ?_))
  (with_reducible rename Fr _ _ _ _ => Fz)
  (with_reducible rename News _ _ _ _ => Nz)
  refine call_bound Nz (.head _) (gives_quick3 (X.keeps Fz.keep) (T.keeps Fz.keep) (by walk_at "m_hand") (by k_room) (by walk_at "m_units") (M.keep Fz.keep) (.j ..) (R1.keep Fz.keep) (R2.keep Fz.keep) (R3.keep Fz.keep) hz1 hz2 hz3 _ _ ?_)
  intro u h2 tk2 k2
  have F2 := fr_grow Fz k2
  have N2 := news_grow Nz k2
  clear Fz Nz
  dsimp only
  by_cases hq : n1 = n2 ∧ n1 = n3
  · rw [if_pos hq]
    k_steps
    all_goals (try (with_reducible show Halt (wpAny _ _ _ _ _ _); refine Halt.mk ?_))
    (with_reducible rename Fr _ _ _ _ => Fx)
    exact hQ _ _ rfl hG (.of_keep Fx.keep) (B.t.keep Fx.keep) ⟨u, by unfold jv3; rw [if_pos hq], trivial⟩
  · rw [if_neg hq]
    by_cases hm : n1 = [] ∨ n2 = [] ∨ n3 = []
    · rw [if_pos hm]
      k_steps
      all_goals (try (with_reducible show Halt (wpAny _ _ _ _ _ _); refine Halt.mk ?_))
      (with_reducible rename Fr _ _ _ _ => Fx)
      exact hQ _ _ rfl hG (.of_keep Fx.keep) (B.t.keep Fx.keep) ⟨u, by unfold jv3; rw [if_neg hq, if_pos hm], trivial⟩
    · rw [if_neg hm]
      k_steps
      all_goals (try (with_reducible show Halt (wpAny _ _ _ _ _ _); refine Halt.mk ?_))
      (with_reducible rename Fr _ _ _ _ => Fy)
      (with_reducible rename News _ _ _ _ => Ny)
      refine call_bound Ny (.head _) (gives_ctrs3 (B.keep Fy.keep) ?hg (by walk_at "m_hand") (by k_room) (by walk_at "m_units") (M.keep Fy.keep) (.j ..) (R1.keep Fy.keep) (R2.keep Fy.keep) (R3.keep Fy.keep) hz1 hz2 hz3 _ _ ?_)
      case hg => exact hG
      rintro v s' hos' hG' sf' tb' ⟨l, c1, c2, c3, rfl, ⟨⟨oc, od, odt, osl⟩, hlo, hlc, ln, hld⟩, hl0, C1, C2, C3⟩
      dsimp only at hlc hld
      subst hlc hld
      obtain ⟨hB, sfB, tB, FB, hN, hdom⟩ := rebase B.t Fy sf' tb'
      obtain ⟨dx1, es1, m1, a1, b1, a10, b10, e1⟩ := C1.ex
      obtain ⟨dx2, es2, m2, a2, b2, a20, b20, e2⟩ := C2.ex
      obtain ⟨dx3, es3, m3, a3, b3, a30, b30, e3⟩ := C3.ex
      have NB := news_fresh Fy hdom (news_fresh Fy hdom (news_fresh Fy hdom (news_fresh Fy hdom (news_fresh Fy hdom (news_fresh Fy hdom (news_fresh Fy hdom (hN _ Ny) b3 b30) a3 a30) b2 b20) a2 a20) b1 b10) a1 a10) hl0 hlo
      have BB := B.soft sfB tB
      have XB := BB.X
      have TB := BB.T
      have MB := sfB.meas B.t M
      clear Fy Ny hN X T
      k_steps
      all_goals (try (with_reducible show Halt (wpAny _ _ _ _ _ _); refine Halt.mk ?_))
      (with_reducible rename Fr _ _ _ _ => Fx)
      (with_reducible rename News _ _ _ _ => Nx)
      have Q1 := ctr_led Nx (x := c1) (by k_mem) (by k_mem) e1 C1.sys C1.nodup C1.small
      have Q2 := ctr_led Nx (x := c2) (by k_mem) (by k_mem) e2 C2.sys C2.nodup C2.small
      have Q3 := ctr_led Nx (x := c3) (by k_mem) (by k_mem) e3 C3.sys C3.nodup C3.small
      refine call_bound Nx (.head _) (gives_inter3 (XB.keeps Fx.keep) (TB.keeps Fx.keep) (BB.S.keep Fx.keep) (by walk_at "m_hand") (by k_room) (by walk_at "m_units") Q1 Q2 Q3 _ _ ?_)
      intro y hy tky ky Cy
      obtain ⟨dxy, esy, my, y1, y2, y3, y4, ey⟩ := Cy.ex
      have F3 := fr_grow Fx ky
      have N3 := news_add Fx (news_add Fx (news_grow Nx ky) y2 y4) y1 y3
      clear Fx Nx Q1 Q2 Q3
      k_steps
      all_goals (try (with_reducible show Halt (wpAny _ _ _ _ _ _); refine Halt.mk ?_))
      (with_reducible rename Fr _ _ _ _ => Fx)
      (with_reducible rename News _ _ _ _ => Nx)
      have Qy := ctr_led Nx (x := y) (by k_mem) (by k_mem) ey Cy.sys Cy.nodup Cy.small
      refine gives_count (XB.keeps Fx.keep) (TB.keeps Fx.keep) (by walk_at "m_hand") (by k_room) (by walk_at "m_units") (MB.keep Fx.keep) (.j ..) Qy _ _ ?_
      intro uc hc tkc kc
      have F4 := fr_grow Fx kc
      have N4 := news_grow Nx kc
      clear Fx Nx Qy
      k_steps
      all_goals (try (with_reducible show Halt (wpAny _ _ _ _ _ _); refine Halt.mk ?_))
      (with_reducible rename Fr _ _ _ _ => Fx)
      (with_reducible rename News _ _ _ _ => Nx)
      have Q1 := ctr_led Nx (x := c1) (by k_mem) (by k_mem) e1 C1.sys C1.nodup C1.small
      have Q2 := ctr_led Nx (x := c2) (by k_mem) (by k_mem) e2 C2.sys C2.nodup C2.small
      have Q3 := ctr_led Nx (x := c3) (by k_mem) (by k_mem) e3 C3.sys C3.nodup C3.small
      refine call_bound Nx (.head _) (gives_union3 (XB.keeps Fx.keep) (TB.keeps Fx.keep) (BB.S.keep Fx.keep) (by walk_at "m_hand") (by k_room) (by walk_at "m_units") Q1 Q2 Q3 (cnt_small hz1) (cnt_small hz2) (cnt_small hz3) _ _ ?_)
      intro z hy2 tky2 ky2 Cz
      obtain ⟨dxz, esz, mz, z1, z2, z3, z4, ez⟩ := Cz.ex
      have F5 := fr_grow Fx ky2
      have N5 := news_add Fx (news_add Fx (news_grow Nx ky2) z2 z4) z1 z3
      clear Fx Nx Q1 Q2 Q3
      k_steps
      all_goals (try (with_reducible show Halt (wpAny _ _ _ _ _ _); refine Halt.mk ?_))
      (with_reducible rename Fr _ _ _ _ => Fx)
      (with_reducible rename News _ _ _ _ => Nx)
      have Qz := ctr_led Nx (x := z) (by k_mem) (by k_mem) ez Cz.sys Cz.nodup Cz.small
      refine gives_count (XB.keeps Fx.keep) (TB.keeps Fx.keep) (by walk_at "m_hand") (by k_room) (by walk_at "m_units") (MB.keep Fx.keep) (.j ..) Qz _ _ ?_
      intro ud hd2 tkd kd
      have F6 := fr_grow Fx kd
      have N6 := news_grow Nx kd
      clear Fx Nx Qz
      k_steps
      all_goals (try (with_reducible show Halt (wpAny _ _ _ _ _ _); refine Halt.mk ?_))
      dsimp only
      refine PySem.Flt.div_ii_fits (by walk_at "m_hand") hfit (fun e => absurd e (hpos fun z => hm (.inl z))) (fun _ _ => ?_)
      k_steps
      all_goals (try (with_reducible show Halt (wpAny _ _ _ _ _ _); refine Halt.mk ?_))
      (with_reducible rename Fr _ _ _ _ => Fx)
      exact hQ _ _ hos' hG' (sfB.then_keep Fx.keep) (tB.keep Fx.keep) ⟨_, by unfold jv3; rw [if_neg hq, if_neg hm]; rfl, .flt (by (try dsimp only); omega)⟩

end

section
open PySem PySem.W PySem.Calls PyProof.Rows
set_option maxHeartbeats 4000000
section
variable {prog : Program} {w : World} {A : Around} {E : Value → Shared → Prop} {env : Env} {s : Shared}
/-- a list comprehension that makes an int of each item of a list -/
theorem intComp {elt iter : Expr} {x : Str} {px : Pos} {scope : Scope} {cl : List (Str × Addr)} {pos : Pos} {Q : Value → Shared → Prop} (hh : A.handled = none)
    (hclos : closureFor scope env = pure cl) (hcell : ∀ y ∈ scope.names, y.2 ≠ .cell) (hkind : scope.kind = .function)
    (hnames : ∀ y ∈ scope.names, y.2 = .local → scope.names.lookup y.1 = some .local) (hx : scope.names.lookup x = some .local)
    (h : wpAny (model prog w) A (eval iter env) (fun xv s₁ => ∃ (l : Addr) (vs : List Value) (f : Nat → Int), xv = .ref l ∧ s₁.heap.IsList l vs.toArray ∧ vs.length ≤ 100 ∧
      (∀ C i v s₃ m₃ E', vs[i]? = some v → s₃.heap.Ns C m₃ → m₃ x = some v → (∀ b o, s₁.heap.get? b = some o → s₃.heap.get? b = some o) →
        wpAny (model prog w) A (eval elt (compEnvC scope cl C env)) (fun y s₄ => (∃ u, y = Value.int (f i) u) ∧ Keeps s₃ s₄) E' s₃) ∧
      (∀ (D : Addr) (h' : Heap) (tk : Nat) (ts : List Value), s₁.heap.get? D = none → h'.IsList D ts.toArray → ts.length = vs.length → (∀ j y, ts[j]? = some y → ∃ u, y = Value.int (f j) u) → (∀ b o, s₁.heap.get? b = some o → h'.get? b = some o) →
        Q (.ref D) { s₁ with heap := h', toks := tk })) E s)
    (hs : ∀ x, foldedSetIterable iter env x = pure x := by intro _; rfl) :
    wpAny (model prog w) A (eval (.ListComp elt [⟨.Name x px, iter, [], 0⟩] scope pos) env) Q E s := by
  rw [eval_ListComp]
  refine wpAny_comprehension_free (use := none) rfl hs hclos hkind hnames (wpAny_mono h (fun xv s₁ h₁ => ?_) fun _ _ e => e)
  obtain ⟨l, vs, f, rfl, hl, hlen, helt, hQ⟩ := h₁
  have hllt : l < s₁.heap.objs.size := let ⟨_, e, _⟩ := hl; Heap.lt_size e
  refine wpAny_pyIter_list hl ?_
  generalize hI : s₁.heap.objs.size = I
  generalize hio : ({ cls := .type "list_iterator", data := .fields #[.ref l, .int 0 0] } : Obj) = io
  have hlI : l ≠ I := by subst hI; exact Nat.ne_of_lt hllt
  have W : Walks prog w A I [I, l] [I] vs.toArray.size _ _ := Walks.list hh I l hlI vs.toArray
  have old : ∀ b o, s₁.heap.get? b = some o → b < I := fun b o e => by subst hI; exact Heap.lt_size e
  refine wpAny_newObj_type (wpAny_newFunctionEnv hcell (by intro y hy; simp at hy) (fun h₁ hns₁ hsb₁ => ?_) hkind)
  dsimp only at hns₁ hsb₁ ⊢
  generalize hD0 : (s₁.heap.push io).objs.size = D at hns₁ hsb₁ ⊢
  generalize hH : (s₁.heap.push io).push { cls := .type "list", dict := none, data := .seq ([] : List Value).toArray } = H at hns₁ hsb₁ ⊢
  generalize hC0 : H.objs.size = C at hns₁ hsb₁ ⊢
  have hDI : D = I + 1 := by subst hD0 hI; exact Heap.size_push ..
  have hCD : C = D + 1 := by subst hC0 hH hD0; exact Heap.size_push ..
  have lt1 : (I : Nat) < D := by rw [hDI]; exact Nat.lt_succ_self _
  have lt2 : (D : Nat) < C := by rw [hCD]; exact Nat.lt_succ_self _
  have gI : H.get? I = some io := by subst hH; exact Heap.get?_push_of_some _ (by subst hI; exact Heap.get?_push_size _ (by subst hio; rfl))
  have gD : H.get? D = some { cls := .type "list", dict := none, data := .seq ([] : List Value).toArray } := by subst hH hD0; exact Heap.get?_push_size _ rfl
  have gO : ∀ b o, s₁.heap.get? b = some o → H.get? b = some o := fun b o e => by subst hH; exact Heap.get?_push_of_some _ (Heap.get?_push_of_some _ e)
  have up : ∀ b o, b ≠ C → H.get? b = some o → h₁.get? b = some o := fun b o hb e => hsb₁.extBut b o hb (Heap.get?_push_of_some _ e)
  have oldC : ∀ b o, s₁.heap.get? b = some o → b ≠ C ∧ b ≠ D ∧ b ≠ I := fun b o e =>
    ⟨Nat.ne_of_lt (Nat.lt_trans (old b o e) (Nat.lt_trans lt1 lt2)), Nat.ne_of_lt (Nat.lt_trans (old b o e) lt1), Nat.ne_of_lt (old b o e)⟩
  have nCD : D ≠ C := Nat.ne_of_lt lt2
  have nCI : I ≠ C := Nat.ne_of_lt (Nat.lt_trans lt1 lt2)
  have nDI : I ≠ D := Nat.ne_of_lt lt1
  have hlC := oldC l _ hl.choose_spec.1
  have hst₁ : h₁.IsListIter I l 0 ∧ h₁.IsList l vs.toArray := by
    obtain ⟨ol, hol, r⟩ := hl
    exact ⟨⟨io, up I io nCI gI, by subst hio; rfl, by subst hio; rfl⟩, ⟨ol, up l ol hlC.1 (gO l ol hol), r⟩⟩
  have hacc : h₁.PlainList D ([] : List Value).toArray := ⟨_, up D _ nCD gD⟩
  have loop : codeAny (model prog w) A (.compLoop (.ListComp elt [⟨.Name x px, iter, [], 0⟩] scope pos) 0 (.ref I) (.ref D) (compEnvC scope cl C env))
      (compPost (model prog w) A E none Q (.ref D) C) { s₁ with heap := h₁, toks := s₁.toks + ([] : List (Str × Value)).length } := by
    refine codeAny_compLoop_tests
      (fun k s' => ∃ (h' : Heap) (tk : Nat) (m' : Str → Option Value) (ts : List Value), s' = { s₁ with heap := h', toks := tk } ∧ (h'.IsListIter I l ts.length ∧ h'.IsList l vs.toArray) ∧ h'.PlainList D ts.toArray ∧ h'.Ns C m' ∧ (∀ j y, ts[j]? = some y → ∃ u, y = Value.int (f j) u) ∧
        ts.length ≤ vs.length ∧ k = vs.length + 1 - ts.length ∧ (∀ b o, s₁.heap.get? b = some o → h'.get? b = some o)) ?_ (vs.length + 1)
      ⟨h₁, _, _, [], rfl, hst₁, hacc, hns₁, fun _ _ e => by simp at e, Nat.zero_le _, rfl, fun b o e => up b o (oldC b o e).1 (gO b o e)⟩
    rintro k s' ⟨h', tk, m', ts, rfl, hst, hpl, hns, hts, hle, rfl, hk⟩
    by_cases hlt : ts.length < vs.length
    · refine W.item ts.length _ _ _ (by simpa using hlt) hst fun v h₂ tk₂ hP hst₂ hk₂ => ?_
      have k2 : ∀ b o, b ≠ I → h'.get? b = some o → h₂.get? b = some o := fun b o hb e => hk₂ b o (by simpa using hb) e
      obtain ⟨oC, _, _, goC, _⟩ := id hns
      refine wpAny_assign_Name (wpAny_storeName_local (lookup_relabel_local hx) (hns.at' fun o e => k2 C o (Ne.symm nCI) e) (fun h₃ hn₃ hs₃ => ?_) (by simp [compEnvC, relabel, hkind]))
      have k3 : ∀ b o, b ≠ I → b ≠ C → h'.get? b = some o → h₃.get? b = some o := fun b o hb hb2 e => hs₃.extBut b o hb2 (k2 b o hb e)
      refine wpAny_pure ?_
      rw [if_pos rfl]
      have hst₃ := W.frame _ _ h₃ hst₂ fun b hb o e => hs₃.extBut b o (by
        rcases List.mem_cons.mp hb with rfl | hb
        · exact nCI
        · rw [List.mem_singleton.mp hb]; exact hlC.1) e
      have hvi : vs[ts.length]? = some v := by simpa using hP
      refine wpAny_mono (helt C ts.length v _ _ _ hvi hn₃ (by simp) fun b o e => k3 b o (oldC b o e).2.2 (oldC b o e).1 (hk b o e)) ?_ fun _ _ e => e
      rintro y s₄ ⟨⟨T, rfl⟩, h₄, tk₄, rfl, hk₄⟩
      dsimp only at hk₄
      have hpl₄ : h₄.PlainList D ts.toArray := hpl.at fun o e => hk₄ _ _ (k3 D o (Ne.symm nDI) nCD e)
      refine wpAny_list_append_plain (s := { s₁ with heap := h₄, toks := tk₄ }) hpl₄ (fun h₅ hpl₅ hs₅ => ?_) (by rw [sizeLine_eq, List.size_toArray]; omega)
      have k5 : ∀ b o, b ∉ [C, D, I] → h'.get? b = some o → h₅.get? b = some o := fun b o hb e => by
        simp only [List.mem_cons, List.not_mem_nil, or_false, not_or] at hb
        exact hs₅.extBut b o hb.2.1 (hk₄ b o (k3 b o hb.2.2 hb.1 e))
      have k35 : ∀ b o, b ≠ D → h₃.get? b = some o → h₅.get? b = some o := fun b o hb e => hs₅.extBut b o hb (hk₄ b o e)
      refine ⟨vs.length + 1 - (ts ++ [Value.int (f ts.length) T]).length, by simp; omega, h₅, tk₄, _, ts ++ [Value.int (f ts.length) T], rfl, ?_, by simpa using hpl₅, (hn₃.keeps hk₄).sameBut hs₅ (Ne.symm nCD), ?_, by simp; omega, rfl, fun b o e => k5 b o (by simp only [List.mem_cons, List.not_mem_nil, or_false, not_or]; exact oldC b o e) (hk b o e)⟩
      · have := W.frame _ _ h₅ hst₃ fun b hb o e => k35 b o (by
          rcases List.mem_cons.mp hb with rfl | hb
          · exact nDI
          · rw [List.mem_singleton.mp hb]; exact hlC.2.1) e
        simpa using this
      · intro j T' hj
        rcases Nat.lt_trichotomy j ts.length with hj1 | hj1 | hj1
        · rw [List.getElem?_append_left hj1] at hj
          exact hts j T' hj
        · subst hj1; simp at hj; subst hj; exact ⟨T, rfl⟩
        · rw [List.getElem?_eq_none (by simp; omega)] at hj; cases hj
    · have hin : ts.length = vs.length := by omega
      have hst' := hst
      rw [hin] at hst'
      refine W.done _ _ _ (by simpa using hst') fun h₂ tk₂ hk₂ => ?_
      have k2 : ∀ b o, b ≠ I → h'.get? b = some o → h₂.get? b = some o := fun b o hb e => hk₂ b o (by simpa using hb) e
      refine ⟨m', hns.at' fun o e => k2 C o (Ne.symm nCI) e, fun h'' hs'' => ?_⟩
      have k4 : ∀ b o, b ≠ I → b ≠ C → h'.get? b = some o → h''.get? b = some o := fun b o h1 h2 e => hs''.extBut b o h2 (k2 b o h1 e)
      refine hQ D h'' tk₂ ts ?_ (hpl.at fun o e => k4 _ _ (Ne.symm nDI) nCD e).isList hin hts fun b o e => k4 b o (oldC b o e).2.2 (oldC b o e).1 (hk b o e)
      exact Heap.get?_none_of_le (by rw [hI]; exact Nat.le_of_lt lt1)
  exact codeAny_compStart_list loop (W.self 0 _ _ _ hst₁ loop)
end

end

section
open PySem PySem.W PySem.Calls PyProof.Rows
set_option maxHeartbeats 4000000
/-- ints, as g counts them -/
def CountsAre (g : Value → Int) : List Value → List Value → Prop
  | [], [] => True
  | v :: vs, y :: ys => (∃ u, y = .int (g v) u) ∧ CountsAre g vs ys
  | _, _ => False
theorem counts_of {g : Value → Int} {vs ys : List Value} (h : Paired (fun v y => ∃ u, y = Value.int (g v) u) vs ys) : CountsAre g vs ys := by
  induction h with
  | nil => trivial
  | cons h _ ih => exact ⟨h, ih⟩
/-- the walk stops here -/
structure Hold (p : Prop) : Prop where
  out : p
section
variable {prog : Program} {w : World} {A : Around} {E : Value → Shared → Prop} {env : Env} {s : Shared} {h₀ : Heap}
/-- name = [int of each item of a list] -/
theorem intAssign {elt iter : Expr} {x y : Str} {px py : Pos} {scope : Scope} {cl : List (Str × Addr)} {pos spos : Pos} {Q : Flow → Shared → Prop} (g : Value → Int) (hh : A.handled = none)
    (hsw : swapsWith (.ListComp elt [⟨.Name x px, iter, [], 0⟩] scope pos) (some (.Name y py)) spos.line env = pure true)
    (hclos : closureFor scope env = pure cl) (hcell : ∀ z ∈ scope.names, z.2 ≠ .cell) (hkind : scope.kind = .function)
    (hnames : ∀ z ∈ scope.names, z.2 = .local → scope.names.lookup z.1 = some .local) (hx : scope.names.lookup x = some .local)
    (hy : env.kindOf y = some .local) (hp : (env.scope.kind == .class || (env.scope.kind == .module && env.locals != env.globals)) = false)
    (h : wpAny (model prog w) A (eval iter env) (fun xv s₁ => Hold (∃ (l : Addr) (vs : List Value) (m : Str → Option Value) (news : List (Addr × Obj)), xv = .ref l ∧ s₁.heap.IsList l vs.toArray ∧ vs.length ≤ 100 ∧ Fr h₀ env.locals s₁.heap m ∧ News h₀ env.locals s₁.heap news ∧
      (∀ C v s₃ m₃ E', v ∈ vs → s₃.heap.Ns C m₃ → m₃ x = some v → Fr h₀ C s₃.heap m₃ → News h₀ C s₃.heap news →
        wpAny (model prog w) A (eval elt (compEnvC scope cl C env)) (fun y s₄ => (∃ u, y = Value.int (g v) u) ∧ Keeps s₃ s₄) E' s₃) ∧
      (∀ (D : Addr) (h' : Heap) (tk : Nat) (ts : List Value) (e : Nat), Fr h₀ env.locals h' (fun z => if z = y then some (.ref D) else m z) → News h₀ env.locals h' ((D, { cls := .type "list", data := .seq ts.toArray e }) :: news) → CountsAre g vs ts →
        Q .next { s₁ with heap := h', toks := tk }))) E s)
    (hs : ∀ x, foldedSetIterable iter env x = pure x := by intro _; rfl) :
    wpAny (model prog w) A (exec (.Assign [.Name y py] (.ListComp elt [⟨.Name x px, iter, [], 0⟩] scope pos) spos) env) Q E s := by
  refine wpAny_Assign_ListComp_free (fun _ => true) (fun v y => ∃ u, y = Value.int (g v) u) hsw hclos hcell hkind hnames hx hy hp (wpAny_mono h (fun xv s₁ h₁ => ?_) fun _ _ e => e) hs
  obtain ⟨l, vs, m, news, rfl, hl, hlen, F, N, helt, hQ⟩ := h₁.out
  have hllt : l < s₁.heap.objs.size := let ⟨_, e, _⟩ := hl; Heap.lt_size e
  have hne : l ≠ s₁.heap.objs.size := Nat.ne_of_lt hllt
  refine wpAny_pyIter_list hl ?_
  have up : ∀ b o, s₁.heap.get? b = some o → (s₁.heap.push { cls := .type "list_iterator", data := .fields #[.ref l, .int 0 0] }).get? b = some o := fun b o e => Heap.get?_push_of_some _ e
  have old : ∀ b o, s₁.heap.get? b = some o → b ≠ s₁.heap.objs.size := fun b o e => Nat.ne_of_lt (Heap.lt_size e)
  refine ⟨s₁.heap.objs.size, [s₁.heap.objs.size, l], [s₁.heap.objs.size], vs.toArray.size, _, _, m, rfl, Walks.list hh _ l hne vs.toArray, by rw [sizeLine_eq, List.size_toArray]; omega,
    ⟨⟨_, Heap.get?_push_size _ rfl, rfl, rfl⟩, let ⟨o, a, b⟩ := hl; ⟨o, up _ _ a, b⟩⟩, ?_, ?_, F.ns.push _, ⟨?_, ?_⟩, ?_⟩
  · intro b hb
    rw [Heap.size_push]
    rcases List.mem_cons.mp hb with rfl | hb
    · exact Nat.lt_succ_self _
    · rw [List.mem_singleton.mp hb]; exact Nat.lt_succ_of_lt hllt
  · intro hb
    rw [List.mem_singleton] at hb
    exact absurd F.ns.lt (hb ▸ Nat.lt_irrefl _)
  · intro C i v s₃ m₃ E' _ _ _ _ _ _
    exact wpAny_pure ⟨rfl, _, _, rfl, fun _ _ e => e⟩
  · intro C i v s₃ m₃ E' hC hP _ hn hm hk _
    have hC1 : s₁.heap.objs.size < C := by rw [Heap.size_push] at hC; exact hC
    have k1 : ∀ b o, s₁.heap.get? b = some o → s₃.heap.get? b = some o := fun b o e => hk b o (by simpa using old b o e) (up b o e)
    refine helt C v s₃ m₃ E' (List.mem_of_getElem? (by simpa using hP)) hn hm ⟨hn, fun b o e => k1 b o (F.keep b o e), Nat.le_trans F.above (Nat.le_of_lt (Nat.lt_trans F.ns.lt hC1))⟩ fun q hq => ?_
    obtain ⟨q1, q2, q3⟩ := N q hq
    exact ⟨k1 _ _ q1, Nat.ne_of_lt (Nat.lt_trans (Heap.lt_size q1) hC1), q3⟩
  · intro D h' tk ys vs' hD hl' hpl hlen' hP hF hns hk
    have hvs : vs' = vs := by
      refine List.ext_getElem? fun j => ?_
      cases hj : vs'[j]? with
      | some v => have := hP j v hj; simpa using this.symm
      | none =>
        have : vs'.length ≤ j := by simpa using hj
        rw [hlen', List.size_toArray] at this
        rw [List.getElem?_eq_none this]
    subst hvs
    rw [List.filter_eq_self.mpr (fun _ _ => rfl)] at hF
    obtain ⟨e, he⟩ := hpl
    have keep1 : ∀ b o, b ≠ env.locals → s₁.heap.get? b = some o → h'.get? b = some o := fun b o hb x => hk b o hb (by simpa using old b o x) (up b o x)
    have hDs : s₁.heap.get? D = none := get_none up hD
    have F' : Fr h₀ env.locals h' (fun z => if z = y then some (.ref D) else m z) := ⟨hns, fun b o x => keep1 b o (Nat.ne_of_lt (Nat.lt_of_lt_of_le (Heap.lt_size x) F.above)) (F.keep b o x), F.above⟩
    refine hQ D h' tk ys.toList e F' ?_ (counts_of hF)
    intro q hq
    rcases List.mem_cons.mp hq with rfl | hq
    · refine ⟨by simpa using he, ?_, get_none F.keep hDs⟩
      rintro rfl
      obtain ⟨oL, _, _, hL, _⟩ := F.ns
      rw [hL] at hDs; cases hDs
    · exact ⟨keep1 _ _ (N q hq).2.1 (N q hq).1, (N q hq).2⟩
end

end

section
open PySem PySem.W PySem.Calls PyProof.Rows
set_option maxHeartbeats 4000000
theorem ents_uniq {es : List DictEntry} {c c' : List (Int × Int)} (h : Ents es c) (h' : Ents es c') : c = c' := by
  refine List.ext_getElem? fun i => ?_
  cases he : es[i]? with
  | none => 
    have z1 := h.length
    have z2 := h'.length
    rw [List.getElem?_eq_none_iff] at he
    rw [List.getElem?_eq_none (by omega), List.getElem?_eq_none (by omega)]
  | some e =>
    obtain ⟨k, v, t, u, a, rfl⟩ := h.row he
    obtain ⟨k', v', t', u', a', b'⟩ := h'.row he
    injection b' with _ q1 q2
    injection q1 with q1
    injection q2 with q2
    rw [a, a', q1, q2]
theorem at_uniq {h : Heap} {x : Addr} {c c' : List (Int × Int)} (C : CAt h x c) (C' : CAt h x c') : c = c' := by
  obtain ⟨dx, es, n, a, _, e⟩ := C.ex
  obtain ⟨dx', es', n', a', _, e'⟩ := C'.ex
  rw [a] at a'
  have q : es.toArray = es'.toArray := by
    injection a' with a'
    unfold ctrO at a'
    simp at a'
    simp_all
  have q : es = es' := by simpa using q
  subst q
  exact ents_uniq e e'
/-- how the items of a list are counted -/
structure GIs where
  g : Value → Int
theorem pick2 {h : Heap} {c1 c2 : Addr} {k1 k2 : List (Int × Int)} (b : Bool) (C1 : CAt h c1 k1) (C2 : CAt h c2 k2) : ∃ G : GIs, G.g (.ref c1) = cc b k1 ∧ G.g (.ref c2) = cc b k2 := by
  refine ⟨⟨fun v => if v = .ref c1 then cc b k1 else cc b k2⟩, if_pos rfl, ?_⟩
  by_cases e : c2 = c1
  · subst e; rw [at_uniq C2 C1]; exact if_pos rfl
  · exact if_neg fun q => e (by injection q)
theorem pick3 {h : Heap} {c1 c2 c3 : Addr} {k1 k2 k3 : List (Int × Int)} (b : Bool) (C1 : CAt h c1 k1) (C2 : CAt h c2 k2) (C3 : CAt h c3 k3) : ∃ G : GIs, G.g (.ref c1) = cc b k1 ∧ G.g (.ref c2) = cc b k2 ∧ G.g (.ref c3) = cc b k3 := by
  refine ⟨⟨fun v => if v = .ref c1 then cc b k1 else if v = .ref c2 then cc b k2 else cc b k3⟩, if_pos rfl, ?_, ?_⟩
  · by_cases e : c2 = c1
    · subst e; rw [at_uniq C2 C1]; exact if_pos rfl
    · exact (if_neg fun q => e (by injection q)).trans (if_pos rfl)
  · by_cases e : c3 = c1
    · subst e; rw [at_uniq C3 C1]; exact if_pos rfl
    · by_cases e2 : c3 = c2
      · subst e2; rw [at_uniq C3 C2]; exact (if_neg fun q => e (by injection q)).trans (if_pos rfl)
      · exact (if_neg fun q => e (by injection q)).trans (if_neg fun q => e2 (by injection q))
theorem counts2 {g : Value → Int} {a b : Value} {ts : List Value} (h : CountsAre g [a, b] ts) : ∃ u1 u2, ts = [.int (g a) u1, .int (g b) u2] := by
  match ts, h with
  | [_, _], ⟨⟨u1, rfl⟩, ⟨u2, rfl⟩, _⟩ => exact ⟨u1, u2, rfl⟩
theorem counts3 {g : Value → Int} {a b c : Value} {ts : List Value} (h : CountsAre g [a, b, c] ts) : ∃ u1 u2 u3, ts = [.int (g a) u1, .int (g b) u2, .int (g c) u3] := by
  match ts, h with
  | [_, _, _], ⟨⟨u1, rfl⟩, ⟨u2, rfl⟩, ⟨u3, rfl⟩, _⟩ => exact ⟨u1, u2, u3, rfl⟩
theorem least2 {M a b : Int} (h : M ∈ [a, b]) (h' : ∀ z, z ∈ [a, b] → M ≤ z) : M = min a b := by
  have z1 := h' a (by simp)
  have z2 := h' b (by simp)
  simp at h
  omega
theorem least3 {M a b c : Int} (h : M ∈ [a, b, c]) (h' : ∀ z, z ∈ [a, b, c] → M ≤ z) : M = min (min a b) c := by
  have z1 := h' a (by simp)
  have z2 := h' b (by simp)
  have z3 := h' c (by simp)
  simp at h
  omega

end

open PySem PySem.W PySem.Calls PyProof.Rows
local macro_rules | `(tactic| walk_at "exec Assign cons ListComp") => `(tactic| (k_here; (with_reducible show wpAny _ _ (exec (Stmt.Assign _ (Expr.ListComp (Expr.Call (Expr.Attribute _ (PySem.Str.ofString "_count_counters") _) _ _ _) _ _ _) _) _) _ _ _); refine' intAssign (GIs.g (by assumption)) ?hh ?c0 ?c1 ?c2 ?c3 ?c4 ?c5 ?c6 ?c7 ?_ ?c8; (case hh => k_dflt walk_at "m_hand"); (case c0 => k_dflt exact rfl); (case c1 => k_dflt exact rfl); (case c2 => k_dflt decide); (case c3 => k_dflt exact rfl); (case c4 => k_dflt decide); (case c5 => k_dflt exact rfl); (case c6 => k_dflt exact rfl); (case c7 => k_dflt exact rfl); (case c8 => k_dflt (intro _; rfl))))

section
open PySem PySem.W PySem.Calls PyProof.Rows
set_option maxHeartbeats 4000000
local macro_rules | `(tactic| walk_at "call ref cons nil") => `(tactic| (k_here; (with_reducible show wpAny _ _ (call (Value.ref _) _ _) _ _ _); refine Halt.out ?_))
local macro_rules | `(tactic| walk_at "call builtin:all cons nil") => `(tactic| (k_here; (with_reducible show wpAny _ _ (call (Value.builtin "all") [Value.ref _] _) _ _ _); refine Halt.out ?_))
local macro_rules | `(tactic| walk_at "call builtin:sum cons nil") => `(tactic| (k_here; (with_reducible show wpAny _ _ (call (Value.builtin "sum") [Value.ref _] _) _ _ _); refine Halt.out ?_))
local macro_rules | `(tactic| walk_at "eval GeneratorExp Call cons") => `(tactic| (k_here; (with_reducible show wpAny _ _ (eval (Expr.GeneratorExp _ _ _ _) _) _ _ _); refine Halt.out ?_))
local macro_rules | `(tactic| walk_at "binaryOp Div int int") => `(tactic| (k_here; (with_reducible show wpAny _ _ (binaryOp Operator.Div _ _) _ _ _); refine Halt.out ?_))
local macro_rules | `(tactic| walk_at "binaryOp Div float int") => `(tactic| (k_here; (with_reducible show wpAny _ _ (binaryOp Operator.Div _ _) _ _ _); refine Halt.out ?_))
local macro_rules | `(tactic| walk_at "binaryOp Mult float int") => `(tactic| (k_here; (with_reducible show wpAny _ _ (binaryOp Operator.Mult (Value.float _ _) _) _ _ _); refine Halt.out ?_))
local macro_rules | `(tactic| walk_at "call builtin:min cons nil") => `(tactic| (k_here; (with_reducible show wpAny _ _ (call (Value.builtin "min") [Value.ref _] _) _ _ _); refine Halt.out ?_))
/-- Overlap's answer -/
def ov2 (b : Bool) (n1 n2 : List Int) (u : Tok) : Value := if n1 = n2 then .int 1 u else if n1 = [] ∨ n2 = [] then .int 0 u else .float (quo (cc b (cand (cnt n1) (cnt n2))) (min (cc b (cnt n1)) (cc b (cnt n2)))) u
theorem gives_ov2 {prog : Program} {w : World} {A : Around} {p : Program} {loose : List Str} {mg mb : Str → Option Value} {bm : Addr} {ob : Obj} {s : Shared} {x dx r1 r2 : Addr} {n : Nat} {b : Bool} {n1 n2 : List Int} {tq t1 t2 t3 : Tok}
    (B : Bas w p loose mg mb bm ob s.heap) (hG : AllBare s.gens) (hA : A.handled = none) (hd : A.depth + 30 < recursionLimit) (hu : A.units + 150 < cLine)
    (M : Meas s.heap x dx 368 (attr3 w b tq t1 t2 t3) n) (R1 : RowAt s.heap r1 n1) (R2 : RowAt s.heap r2 n2) (hz1 : n1.length ≤ 100) (hz2 : n2.length ≤ 100)
    (hpos : ¬(n1 = [] ∨ n2 = []) → min (cc b (cnt n1)) (cc b (cnt n2)) ≠ 0) (hfit : (cc b (cand (cnt n1) (cnt n2))).natAbs < 2 ^ 1023) :
    CodeT (model prog w) A s (.call (.ref 365) ⟨[.ref x, .ref r1, .ref r2], []⟩) (fun v n => ∃ u, v = ov2 b n1 n2 u ∧ RecT v n) := by
  intro Q E hQ
  have X := B.X
  have T := B.T
  walk_at "m_enterVC"
  intro D L' h₁ tk cells F N Y hab hDL
  k_cells Y
  rename_i o' d'
  replace d' : o'.data = .cell (some (.ref x)) := d'
  replace N : News s.heap L' h₁ [(D, tupO [.ref r1, .ref r2]), (L' + 1, o')] := N
  k_steps
  all_goals (try (with_reducible show Halt (wpAny _ _ _ _ _ _); refine Halt.mk ?_))
  (with_reducible rename Fr _ _ _ _ => Fz)
  (with_reducible rename News _ _ _ _ => Nz)
  refine call_bound Nz (.head _) (gives_quick2 (X.keeps Fz.keep) (T.keeps Fz.keep) (by walk_at "m_hand") (by k_room) (by walk_at "m_units") (M.keep Fz.keep) (.o ..) (R1.keep Fz.keep) (R2.keep Fz.keep) hz1 hz2 _ _ ?_)
  intro u h2 tk2 k2
  have F2 := fr_grow Fz k2
  have N2 := news_grow Nz k2
  clear Fz Nz
  dsimp only
  by_cases hq : n1 = n2
  · rw [if_pos hq]
    k_steps
    all_goals (try (with_reducible show Halt (wpAny _ _ _ _ _ _); refine Halt.mk ?_))
    (with_reducible rename Fr _ _ _ _ => Fx)
    exact hQ _ _ rfl hG (.of_keep Fx.keep) (B.t.keep Fx.keep) ⟨u, by unfold ov2; rw [if_pos hq], trivial⟩
  · rw [if_neg hq]
    by_cases hm : n1 = [] ∨ n2 = []
    · rw [if_pos hm]
      k_steps
      all_goals (try (with_reducible show Halt (wpAny _ _ _ _ _ _); refine Halt.mk ?_))
      (with_reducible rename Fr _ _ _ _ => Fx)
      exact hQ _ _ rfl hG (.of_keep Fx.keep) (B.t.keep Fx.keep) ⟨u, by unfold ov2; rw [if_neg hq, if_pos hm], trivial⟩
    · rw [if_neg hm]
      k_steps
      all_goals (try (with_reducible show Halt (wpAny _ _ _ _ _ _); refine Halt.mk ?_))
      (with_reducible rename Fr _ _ _ _ => Fy)
      (with_reducible rename News _ _ _ _ => Ny)
      refine call_bound Ny (.head _) (gives_ctrs2 (B.keep Fy.keep) ?hg (by walk_at "m_hand") (by k_room) (by walk_at "m_units") (M.keep Fy.keep) (.o ..) (R1.keep Fy.keep) (R2.keep Fy.keep) hz1 hz2 _ _ ?_)
      case hg => exact hG
      rintro v s' hos' hG' sf' tb' ⟨l, c1, c2, rfl, ⟨⟨oc, od, odt, osl⟩, hlo, hlc, ln, hld⟩, hl0, C1, C2⟩
      dsimp only at hlc hld
      subst hlc hld
      obtain ⟨hB, sfB, tB, FB, hN, hdom⟩ := rebase B.t Fy sf' tb'
      obtain ⟨dx1, es1, m1, a1, b1, a10, b10, e1⟩ := C1.ex
      obtain ⟨dx2, es2, m2, a2, b2, a20, b20, e2⟩ := C2.ex
      have NB := news_fresh Fy hdom (news_fresh Fy hdom (news_fresh Fy hdom (news_fresh Fy hdom (news_fresh Fy hdom (hN _ Ny) b2 b20) a2 a20) b1 b10) a1 a10) hl0 hlo
      have BB := B.soft sfB tB
      have XB := BB.X
      have TB := BB.T
      have MB := sfB.meas B.t M
      clear Fy Ny hN X T
      k_steps
      all_goals (try (with_reducible show Halt (wpAny _ _ _ _ _ _); refine Halt.mk ?_))
      (with_reducible rename Fr _ _ _ _ => Fx)
      (with_reducible rename News _ _ _ _ => Nx)
      have Q1 := ctr_led Nx (x := c1) (by k_mem) (by k_mem) e1 C1.sys C1.nodup C1.small
      have Q2 := ctr_led Nx (x := c2) (by k_mem) (by k_mem) e2 C2.sys C2.nodup C2.small
      refine call_bound Nx (.head _) (gives_inter2 (XB.keeps Fx.keep) (TB.keeps Fx.keep) (BB.S.keep Fx.keep) (by walk_at "m_hand") (by k_room) (by walk_at "m_units") Q1 Q2 _ _ ?_)
      intro y hy tky ky Cy
      obtain ⟨dxy, esy, my, y1, y2, y3, y4, ey⟩ := Cy.ex
      have F3 := fr_grow Fx ky
      have N3 := news_add Fx (news_add Fx (news_grow Nx ky) y2 y4) y1 y3
      clear Fx Nx Q1 Q2
      k_steps
      all_goals (try (with_reducible show Halt (wpAny _ _ _ _ _ _); refine Halt.mk ?_))
      (with_reducible rename Fr _ _ _ _ => Fx)
      (with_reducible rename News _ _ _ _ => Nx)
      have Qy := ctr_led Nx (x := y) (by k_mem) (by k_mem) ey Cy.sys Cy.nodup Cy.small
      refine gives_count (XB.keeps Fx.keep) (TB.keeps Fx.keep) (by walk_at "m_hand") (by k_room) (by walk_at "m_units") (MB.keep Fx.keep) (.o ..) Qy _ _ ?_
      intro uc hc tkc kc
      have F4 := fr_grow Fx kc
      have N4 := news_grow Nx kc
      clear Fx Nx Qy
      obtain ⟨G, g1, g2⟩ := pick2 b (C1.at) (C2.at)
      k_steps
      all_goals (try (with_reducible show Halt (wpAny _ _ _ _ _ _); refine Halt.mk ?_))
      rotate_left 4
      (with_reducible rename Fr _ _ _ _ => Fx)
      (with_reducible rename News _ _ _ _ => Nx)
      refine ⟨⟨l, [.ref c1, .ref c2], _, _, rfl, ⟨{ cls := .type "list", dict := od, data := .seq #[.ref c1, .ref c2] ln, slots := osl }, Nx.get (by k_mem), rfl, ⟨ln, rfl⟩⟩, Nat.le_trans (m := 3) (Nat.le_of_ble_eq_true rfl) (Nat.le_of_ble_eq_true rfl), Fx, Nx, ?_, ?_⟩⟩
      · intro C v s3 m3 E' hv hn hm3 Fc Nc
        clear Fx Nx
        have P1 := ctr_led Nc (x := c1) (by k_mem) (by k_mem) e1 C1.sys C1.nodup C1.small
        have P2 := ctr_led Nc (x := c2) (by k_mem) (by k_mem) e2 C2.sys C2.nodup C2.small
        rcases List.mem_cons.mp hv with rfl | hv
        · k_steps
          all_goals (try (with_reducible show Halt (wpAny _ _ _ _ _ _); refine Halt.mk ?_))
          refine gives_count (XB.keeps Fc.keep) (TB.keeps Fc.keep) (by walk_at "m_hand") (by k_room) (by walk_at "m_units") (MB.keep Fc.keep) (.o ..) P1 _ _ ?_
          intro uv hv2 tkv kv
          exact ⟨⟨uv, by rw [g1]⟩, _, _, rfl, kv⟩
        rcases List.mem_cons.mp hv with rfl | hv
        · k_steps
          all_goals (try (with_reducible show Halt (wpAny _ _ _ _ _ _); refine Halt.mk ?_))
          refine gives_count (XB.keeps Fc.keep) (TB.keeps Fc.keep) (by walk_at "m_hand") (by k_room) (by walk_at "m_units") (MB.keep Fc.keep) (.o ..) P2 _ _ ?_
          intro uv hv2 tkv kv
          exact ⟨⟨uv, by rw [g2]⟩, _, _, rfl, kv⟩
        exact absurd hv (by simp)
      · intro D' h' tk' ts e F7 N7 hc7
        obtain ⟨w1, w2, rfl⟩ := counts2 hc7
        rw [g1, g2] at N7
        clear Fx Nx
        k_steps
        all_goals (try (with_reducible show Halt (wpAny _ _ _ _ _ _); refine Halt.mk ?_))
        refine kso_min F7 N7 ⟨_, N7.get (.head _), rfl, ⟨e, rfl⟩⟩ (.cons _ _ (.cons _ _ (.nil))) (Nat.zero_lt_succ _) (by walk_at "m_hand") ?_
        intro h8 M8 t8 tk8 F8 N8 hM hlow
        have eM := least2 hM hlow
        subst eM
        clear F7 N7
        k_steps
        all_goals (try (with_reducible show Halt (wpAny _ _ _ _ _ _); refine Halt.mk ?_))
        dsimp only
        refine PySem.Flt.div_ii_fits (by walk_at "m_hand") hfit (fun e => absurd e (hpos hm)) (fun _ _ => ?_)
        k_steps
        all_goals (try (with_reducible show Halt (wpAny _ _ _ _ _ _); refine Halt.mk ?_))
        (with_reducible rename Fr _ _ _ _ => Fx)
        exact hQ _ _ hos' hG' (sfB.then_keep Fx.keep) (tB.keep Fx.keep) ⟨_, by unfold ov2; rw [if_neg hq, if_neg hm]; rfl, .flt (by (try dsimp only); omega)⟩
      · exact PySem.Str.ofString "s"
      · exact (0 : Nat)
      · exact Value.none
/-- Overlap's answer -/
def ov3 (b : Bool) (n1 n2 n3 : List Int) (u : Tok) : Value := if n1 = n2 ∧ n1 = n3 then .int 1 u else if n1 = [] ∨ n2 = [] ∨ n3 = [] then .int 0 u else .float (quo (cc b (cand (cand (cnt n1) (cnt n2)) (cnt n3))) (min (min (cc b (cnt n1)) (cc b (cnt n2))) (cc b (cnt n3)))) u
theorem gives_ov3 {prog : Program} {w : World} {A : Around} {p : Program} {loose : List Str} {mg mb : Str → Option Value} {bm : Addr} {ob : Obj} {s : Shared} {x dx r1 r2 r3 : Addr} {n : Nat} {b : Bool} {n1 n2 n3 : List Int} {tq t1 t2 t3 : Tok}
    (B : Bas w p loose mg mb bm ob s.heap) (hG : AllBare s.gens) (hA : A.handled = none) (hd : A.depth + 30 < recursionLimit) (hu : A.units + 150 < cLine)
    (M : Meas s.heap x dx 368 (attr3 w b tq t1 t2 t3) n) (R1 : RowAt s.heap r1 n1) (R2 : RowAt s.heap r2 n2) (R3 : RowAt s.heap r3 n3) (hz1 : n1.length ≤ 100) (hz2 : n2.length ≤ 100) (hz3 : n3.length ≤ 100)
    (hpos : ¬(n1 = [] ∨ n2 = [] ∨ n3 = []) → min (min (cc b (cnt n1)) (cc b (cnt n2))) (cc b (cnt n3)) ≠ 0) (hfit : (cc b (cand (cand (cnt n1) (cnt n2)) (cnt n3))).natAbs < 2 ^ 1023) :
    CodeT (model prog w) A s (.call (.ref 365) ⟨[.ref x, .ref r1, .ref r2, .ref r3], []⟩) (fun v n => ∃ u, v = ov3 b n1 n2 n3 u ∧ RecT v n) := by
  intro Q E hQ
  have X := B.X
  have T := B.T
  walk_at "m_enterVC"
  intro D L' h₁ tk cells F N Y hab hDL
  k_cells Y
  rename_i o' d'
  replace d' : o'.data = .cell (some (.ref x)) := d'
  replace N : News s.heap L' h₁ [(D, tupO [.ref r1, .ref r2, .ref r3]), (L' + 1, o')] := N
  k_steps
  all_goals (try (with_reducible show Halt (wpAny _ _ _ _ _ _); refine Halt.mk ?_))
  (with_reducible rename Fr _ _ _ _ => Fz)
  (with_reducible rename News _ _ _ _ => Nz)
  refine call_bound Nz (.head _) (gives_quick3 (X.keeps Fz.keep) (T.keeps Fz.keep) (by walk_at "m_hand") (by k_room) (by walk_at "m_units") (M.keep Fz.keep) (.o ..) (R1.keep Fz.keep) (R2.keep Fz.keep) (R3.keep Fz.keep) hz1 hz2 hz3 _ _ ?_)
  intro u h2 tk2 k2
  have F2 := fr_grow Fz k2
  have N2 := news_grow Nz k2
  clear Fz Nz
  dsimp only
  by_cases hq : n1 = n2 ∧ n1 = n3
  · rw [if_pos hq]
    k_steps
    all_goals (try (with_reducible show Halt (wpAny _ _ _ _ _ _); refine Halt.mk ?_))
    (with_reducible rename Fr _ _ _ _ => Fx)
    exact hQ _ _ rfl hG (.of_keep Fx.keep) (B.t.keep Fx.keep) ⟨u, by unfold ov3; rw [if_pos hq], trivial⟩
  · rw [if_neg hq]
    by_cases hm : n1 = [] ∨ n2 = [] ∨ n3 = []
    · rw [if_pos hm]
      k_steps
      all_goals (try (with_reducible show Halt (wpAny _ _ _ _ _ _); refine Halt.mk ?_))
      (with_reducible rename Fr _ _ _ _ => Fx)
      exact hQ _ _ rfl hG (.of_keep Fx.keep) (B.t.keep Fx.keep) ⟨u, by unfold ov3; rw [if_neg hq, if_pos hm], trivial⟩
    · rw [if_neg hm]
      k_steps
      all_goals (try (with_reducible show Halt (wpAny _ _ _ _ _ _); refine Halt.mk ?_))
      (with_reducible rename Fr _ _ _ _ => Fy)
      (with_reducible rename News _ _ _ _ => Ny)
      refine call_bound Ny (.head _) (gives_ctrs3 (B.keep Fy.keep) ?hg (by walk_at "m_hand") (by k_room) (by walk_at "m_units") (M.keep Fy.keep) (.o ..) (R1.keep Fy.keep) (R2.keep Fy.keep) (R3.keep Fy.keep) hz1 hz2 hz3 _ _ ?_)
      case hg => exact hG
      rintro v s' hos' hG' sf' tb' ⟨l, c1, c2, c3, rfl, ⟨⟨oc, od, odt, osl⟩, hlo, hlc, ln, hld⟩, hl0, C1, C2, C3⟩
      dsimp only at hlc hld
      subst hlc hld
      obtain ⟨hB, sfB, tB, FB, hN, hdom⟩ := rebase B.t Fy sf' tb'
      obtain ⟨dx1, es1, m1, a1, b1, a10, b10, e1⟩ := C1.ex
      obtain ⟨dx2, es2, m2, a2, b2, a20, b20, e2⟩ := C2.ex
      obtain ⟨dx3, es3, m3, a3, b3, a30, b30, e3⟩ := C3.ex
      have NB := news_fresh Fy hdom (news_fresh Fy hdom (news_fresh Fy hdom (news_fresh Fy hdom (news_fresh Fy hdom (news_fresh Fy hdom (news_fresh Fy hdom (hN _ Ny) b3 b30) a3 a30) b2 b20) a2 a20) b1 b10) a1 a10) hl0 hlo
      have BB := B.soft sfB tB
      have XB := BB.X
      have TB := BB.T
      have MB := sfB.meas B.t M
      clear Fy Ny hN X T
      k_steps
      all_goals (try (with_reducible show Halt (wpAny _ _ _ _ _ _); refine Halt.mk ?_))
      (with_reducible rename Fr _ _ _ _ => Fx)
      (with_reducible rename News _ _ _ _ => Nx)
      have Q1 := ctr_led Nx (x := c1) (by k_mem) (by k_mem) e1 C1.sys C1.nodup C1.small
      have Q2 := ctr_led Nx (x := c2) (by k_mem) (by k_mem) e2 C2.sys C2.nodup C2.small
      have Q3 := ctr_led Nx (x := c3) (by k_mem) (by k_mem) e3 C3.sys C3.nodup C3.small
      refine call_bound Nx (.head _) (gives_inter3 (XB.keeps Fx.keep) (TB.keeps Fx.keep) (BB.S.keep Fx.keep) (by walk_at "m_hand") (by k_room) (by walk_at "m_units") Q1 Q2 Q3 _ _ ?_)
      intro y hy tky ky Cy
      obtain ⟨dxy, esy, my, y1, y2, y3, y4, ey⟩ := Cy.ex
      have F3 := fr_grow Fx ky
      have N3 := news_add Fx (news_add Fx (news_grow Nx ky) y2 y4) y1 y3
      clear Fx Nx Q1 Q2 Q3
      k_steps
      all_goals (try (with_reducible show Halt (wpAny _ _ _ _ _ _); refine Halt.mk ?_))
      (with_reducible rename Fr _ _ _ _ => Fx)
      (with_reducible rename News _ _ _ _ => Nx)
      have Qy := ctr_led Nx (x := y) (by k_mem) (by k_mem) ey Cy.sys Cy.nodup Cy.small
      refine gives_count (XB.keeps Fx.keep) (TB.keeps Fx.keep) (by walk_at "m_hand") (by k_room) (by walk_at "m_units") (MB.keep Fx.keep) (.o ..) Qy _ _ ?_
      intro uc hc tkc kc
      have F4 := fr_grow Fx kc
      have N4 := news_grow Nx kc
      clear Fx Nx Qy
      obtain ⟨G, g1, g2, g3⟩ := pick3 b (C1.at) (C2.at) (C3.at)
      k_steps
      all_goals (try (with_reducible show Halt (wpAny _ _ _ _ _ _); refine Halt.mk ?_))
      rotate_left 4
      (with_reducible rename Fr _ _ _ _ => Fx)
      (with_reducible rename News _ _ _ _ => Nx)
      refine ⟨⟨l, [.ref c1, .ref c2, .ref c3], _, _, rfl, ⟨{ cls := .type "list", dict := od, data := .seq #[.ref c1, .ref c2, .ref c3] ln, slots := osl }, Nx.get (by k_mem), rfl, ⟨ln, rfl⟩⟩, Nat.le_trans (m := 3) (Nat.le_of_ble_eq_true rfl) (Nat.le_of_ble_eq_true rfl), Fx, Nx, ?_, ?_⟩⟩
      · intro C v s3 m3 E' hv hn hm3 Fc Nc
        clear Fx Nx
        have P1 := ctr_led Nc (x := c1) (by k_mem) (by k_mem) e1 C1.sys C1.nodup C1.small
        have P2 := ctr_led Nc (x := c2) (by k_mem) (by k_mem) e2 C2.sys C2.nodup C2.small
        have P3 := ctr_led Nc (x := c3) (by k_mem) (by k_mem) e3 C3.sys C3.nodup C3.small
        rcases List.mem_cons.mp hv with rfl | hv
        · k_steps
          all_goals (try (with_reducible show Halt (wpAny _ _ _ _ _ _); refine Halt.mk ?_))
          refine gives_count (XB.keeps Fc.keep) (TB.keeps Fc.keep) (by walk_at "m_hand") (by k_room) (by walk_at "m_units") (MB.keep Fc.keep) (.o ..) P1 _ _ ?_
          intro uv hv2 tkv kv
          exact ⟨⟨uv, by rw [g1]⟩, _, _, rfl, kv⟩
        rcases List.mem_cons.mp hv with rfl | hv
        · k_steps
          all_goals (try (with_reducible show Halt (wpAny _ _ _ _ _ _); refine Halt.mk ?_))
          refine gives_count (XB.keeps Fc.keep) (TB.keeps Fc.keep) (by walk_at "m_hand") (by k_room) (by walk_at "m_units") (MB.keep Fc.keep) (.o ..) P2 _ _ ?_
          intro uv hv2 tkv kv
          exact ⟨⟨uv, by rw [g2]⟩, _, _, rfl, kv⟩
        rcases List.mem_cons.mp hv with rfl | hv
        · k_steps
          all_goals (try (with_reducible show Halt (wpAny _ _ _ _ _ _); refine Halt.mk ?_))
          refine gives_count (XB.keeps Fc.keep) (TB.keeps Fc.keep) (by walk_at "m_hand") (by k_room) (by walk_at "m_units") (MB.keep Fc.keep) (.o ..) P3 _ _ ?_
          intro uv hv2 tkv kv
          exact ⟨⟨uv, by rw [g3]⟩, _, _, rfl, kv⟩
        exact absurd hv (by simp)
      · intro D' h' tk' ts e F7 N7 hc7
        obtain ⟨w1, w2, w3, rfl⟩ := counts3 hc7
        rw [g1, g2, g3] at N7
        clear Fx Nx
        k_steps
        all_goals (try (with_reducible show Halt (wpAny _ _ _ _ _ _); refine Halt.mk ?_))
        refine kso_min F7 N7 ⟨_, N7.get (.head _), rfl, ⟨e, rfl⟩⟩ (.cons _ _ (.cons _ _ (.cons _ _ (.nil)))) (Nat.zero_lt_succ _) (by walk_at "m_hand") ?_
        intro h8 M8 t8 tk8 F8 N8 hM hlow
        have eM := least3 hM hlow
        subst eM
        clear F7 N7
        k_steps
        all_goals (try (with_reducible show Halt (wpAny _ _ _ _ _ _); refine Halt.mk ?_))
        dsimp only
        refine PySem.Flt.div_ii_fits (by walk_at "m_hand") hfit (fun e => absurd e (hpos hm)) (fun _ _ => ?_)
        k_steps
        all_goals (try (with_reducible show Halt (wpAny _ _ _ _ _ _); refine Halt.mk ?_))
        (with_reducible rename Fr _ _ _ _ => Fx)
        exact hQ _ _ hos' hG' (sfB.then_keep Fx.keep) (tB.keep Fx.keep) ⟨_, by unfold ov3; rw [if_neg hq, if_neg hm]; rfl, .flt (by (try dsimp only); omega)⟩
      · exact PySem.Str.ofString "s"
      · exact (0 : Nat)
      · exact Value.none

end

open PySem PySem.W PySem.Calls PyProof.Rows
local macro_rules | `(tactic| walk_at "exec For Tuple Call cons nil") => `(tactic| (k_here; (with_reducible show wpAny _ _ (exec (Stmt.For _ (Expr.Call (Expr.Name (PySem.Str.ofString "zip") _) _ _ _) _ _ _) _) _ _ _); refine Hold.out ?_))
local macro_rules | `(tactic| walk_at "call type:zip") => `(tactic| (k_here; (with_reducible show wpAny _ _ (call (Value.type _) [Value.ref _, Value.ref _]) _ _ _); refine Hold.out ?_))
local macro_rules | `(tactic| walk_at "assign Tuple") => `(tactic| (k_here; (with_reducible show wpAny _ _ (assign (Expr.Tuple _ _ _) _ (Value.ref _)) _ _ _); k_dflt (refine' unpackN_ ?F ?N ?T ?k1 ?k2 ?k3 ?_; (case F => k_asm); (case N => k_asm); (case T => first | with_reducible assumption | (refine News.isTup (by k_asm) (by k_mem))); (case k1 => walk_at "m_hand"); (case k2 => exact rfl); (case k3 => exact rfl)); intro h' F' N'; (try k_sweep)))
theorem mulAsk {prog : Program} {w : World} {A : Around} {E : Value → Shared → Prop} {s : Shared} {a b : Int} {t u : Tok} {Q : Value → Shared → Prop} (hm : IntMulOk a b) (h : Q (.int (a * b) s.toks) { s with toks := s.toks + 1 }) : wpAny (model prog w) A (binaryOp .Mult (.int a t) (.int b u)) Q E s := by
  with_reducible refine mul_int h hm
local macro_rules | `(tactic| walk_at "binaryOp Mult int int") => `(tactic| (k_here; (with_reducible refine mulAsk (by assumption) ?_)))

section
open PySem PySem.W PySem.Calls PyProof.Rows
set_option maxHeartbeats 4000000
theorem Soft.data {h h' : Heap} (s : Soft h h') (t : Tabs h) {b : Addr} {o : Obj} (e : h.get? b = some o) (hc : ∀ ps, o.data ≠ .fields ps) : h'.get? b = some o := by
  obtain ⟨⟨ps, _, _, p2⟩, ⟨qs, _, _, q2⟩⟩ := t
  refine s.keep b o ?_ ?_ e
  · rintro rfl; rw [p2] at e; cases e; exact hc _ rfl
  · rintro rfl; rw [q2] at e; cases e; exact hc _ rfl
section
variable {prog : Program} {w : World} {A : Around} {E : Value → Shared → Prop} {s : Shared} {p : Program} {loose : List Str} {mg mb : Str → Option Value} {bm : Addr} {ob : Obj}
theorem gen_sum {env : Env} {elt iter : Expr} {x : Str} {px : Pos} {scope : Scope} {cl : List (Str × Addr)} {pos : Pos} {Q : Value → Shared → Prop} {D : Addr} {vs : List Value} {q : Nat → Int}
    (B : Bas w p loose mg mb bm ob s.heap) (hG : AllBare s.gens) (hcode : env.code = .ref 300) (hgl : env.globals = mainGlobals)
    (hA : A.handled = none) (hco : scope.isCoroutine = false) (hclos : closureFor scope env = pure cl) (hcell : ∀ y ∈ scope.names, y.2 ≠ .cell) (h0 : scope.names.lookup (".0" : Str) = some NameKind.local)
    (hx : scope.names.lookup x = some .local) (hkind : scope.kind = .function) (hroom : A.depth < recursionLimit)
    (ht : s.heap.IsList D vs.toArray) (hfit : ∀ j, j < vs.length → InLong (q j) ∧ InLong (preSum q (j + 1)))
    (hit : ∀ Q' E', Q' (.ref D) s → wpAny (model prog w) A (eval iter env) Q' E' s)
    (helt : ∀ (A' : Around) E' (code : Value) (C : Addr) (i : Nat) v (s₂ : Shared) m₂, A'.handled = none → A'.depth ≤ A.depth + 1 → A'.units ≤ A.units + 8 → vs[i]? = some v → s₂.heap.Ns C m₂ → m₂ x = some v → s.heap.objs.size ≤ C → Soft s.heap s₂.heap → Tabs s₂.heap → wpAny (model prog w) A' (eval elt (genEnv scope cl C code builtinsNs env)) (fun y s₃ => (∃ u, y = Value.int (q i) u) ∧ Keeps s₂ s₃) E' s₂)
    (h : ∀ a s₁, s₁.os = s.os → Soft s.heap s₁.heap → Tabs s₁.heap →
      (∀ Q' E', (∀ s' t', s'.os = s.os → AllBare s'.gens → Soft s.heap s'.heap → Tabs s'.heap → Q' (.int (preSum q vs.length) t') s') → wpAny (model prog w) A (call (.builtin "sum") [.ref a]) Q' E' s₁) → Q (.ref a) s₁)
    (hs : ∀ x, genFold iter env x = pure x) :
    wpAny (model prog w) A (eval (.GeneratorExp elt [⟨.Name x px, iter, [], 0⟩] scope pos) env) Q E s := by
  have hDlt : D < s.heap.objs.size := let ⟨_, e, _⟩ := ht; Heap.lt_size e
  have hne : D ≠ s.heap.objs.size := Nat.ne_of_lt hDlt
  refine wpAny_GeneratorExp_walksQD hA hco hclos hcell h0 hx hkind hroom (hit _ _ (wpAny_pyIter_list ht ?_)) hs
  generalize hI : s.heap.objs.size = I at *
  generalize hio : ({ cls := .type "list_iterator", data := .fields #[.ref D, .int 0 0] } : Obj) = io
  have hiof : io.isFreed = false := by subst hio; rfl
  have hI2 : (s.heap.push io).get? I = some io := by subst hI; exact Heap.get?_push_size _ hiof
  have hk2 : ∀ b o, s.heap.get? b = some o → (s.heap.push io).get? b = some o := fun b o e => Heap.get?_push_of_some _ e
  have hsz2 : (s.heap.push io).objs.size = I + 1 := by subst hI; exact Heap.size_push ..
  have B2 := B.keep hk2
  refine ⟨B2.T.nolimit, ?_⟩
  have old : ∀ b o, s.heap.get? b = some o → b < I := fun b o e => by subst hI; exact Heap.lt_size e
  have common : ∀ (code : Value) (h₃ : Heap) tk₃, Soft (s.heap.push io) h₃ → Tabs h₃ → (s.heap.push io).objs.size ≤ h₃.objs.size →
      wpAny (model prog w) A (builtinsFor env.globals env.builtins) (fun bi s₄ => ∃ I0 fp wr n₀ P St₀ pz F, (Value.ref I) = .ref I0 ∧ (∀ A' : Around, A'.handled = none → Walks prog w A' I0 fp wr n₀ P St₀) ∧ St₀ 0 s₄.heap ∧ (∀ b ∈ fp, b < s₄.heap.objs.size) ∧ s₄.heap.NoLimit ∧ cStatics ∉ wr ∧
          (∀ href : Heap, (∀ b o, s₄.heap.get? b = some o → href.get? b = some o) →
            QuietGenD prog w (genEnv scope cl s₄.heap.objs.size code bi env) x [] elt (List.range s₄.heap.objs.size) wr P pz F href (A.depth + 1) (A.units + 8)) ∧
          (∀ a h₅ tk gs, gs.bare = true → s₄.heap.objs.size < a → h₅.objs.size = a + 1 → (∀ b o, s₄.heap.get? b = some o → h₅.get? b = some o) →
            WalksS prog w A.in4 a (a :: s₄.heap.objs.size :: List.range s₄.heap.objs.size) (s₄.heap.objs.size :: wr) (GenOnlyQ s₄.gens.size) (passing pz n₀ 0).length
              (fun j y => ∃ i, (passing pz n₀ 0)[j]? = some i ∧ F i y) (GenAt prog w A.in4 a s₄.gens.size s₄.heap.objs.size (List.range s₄.heap.objs.size) wr pz n₀ F) →
            GenAt prog w A.in4 a s₄.gens.size s₄.heap.objs.size (List.range s₄.heap.objs.size) wr pz n₀ F 0 { s₄ with gens := s₄.gens.push gs, toks := tk, heap := h₅ } →
            Q (.ref a) { s₄ with gens := s₄.gens.push gs, toks := tk, heap := h₅ })) E { s with heap := h₃, toks := tk₃ } := by
    intro code h₃ tk₃ sf t₃ hge
    have B₃ := B2.soft sf t₃
    have sf0 : Soft s.heap h₃ := (Soft.of_keep hk2).trans sf
    rw [hgl]
    refine wpAny_builtinsFor B₃.M.ns B₃.M.name B₃.M.ne B₃.M.obj B₃.M.cls B₃.M.dict B₃.M.data ?_
    have hst : h₃.IsListIter I D 0 ∧ h₃.IsList D vs.toArray := by
      obtain ⟨od, hod, hc, r⟩ := ht
      refine ⟨⟨io, sf.cls B2.t hI2 (by subst hio; exact fun e => by cases e), by subst hio; rfl, by subst hio; rfl⟩, ⟨od, sf0.cls B.t hod (by rw [hc]; exact fun e => by cases e), hc, r⟩⟩
    have hIlt : I < h₃.objs.size := by rw [hsz2] at hge; exact hge
    refine ⟨I, [I, D], [I], vs.toArray.size, fun i v => vs.toArray[i]? = some v, _, fun _ => true, fun i y => ∃ u, y = Value.int (q i) u, rfl, fun A' hA' => Walks.list hA' I D hne vs.toArray, hst, ?_, B₃.T.nolimit, ?_, ?_, ?_⟩
    · intro b hb
      rcases List.mem_cons.mp hb with rfl | hb
      · exact hIlt
      · rw [List.mem_singleton.mp hb]; exact Nat.lt_trans hDlt hIlt
    · intro hb
      obtain ⟨mc, hn, _⟩ := B.T.nolimit
      have := old _ _ hn.choose_spec.choose_spec.choose_spec.1
      rw [List.mem_singleton.mp hb] at this
      exact absurd this (Nat.lt_irrefl _)
    · intro href hhref
      have soft2 : ∀ (s₂ : Shared), (∀ b ∈ List.range h₃.objs.size, b ∉ [I] → ∀ o, href.get? b = some o → s₂.heap.get? b = some o) → Soft s.heap s₂.heap := by
        intro s₂ hb
        have lift : ∀ b o, b ≠ I → h₃.get? b = some o → s₂.heap.get? b = some o := fun b o h1 e => hb b (List.mem_range.mpr (Heap.lt_size e)) (by simpa using h1) o (hhref b o e)
        refine ⟨fun b o h1 h2 e => lift b o (Nat.ne_of_lt (old b o e)) (sf0.keep b o h1 h2 e), fun ps e => ?_, fun ps e => ?_⟩
        · obtain ⟨more, e2⟩ := sf0.a ps e
          exact ⟨more, lift _ _ (Nat.ne_of_lt (old _ _ e)) e2⟩
        · obtain ⟨more, e2⟩ := sf0.b ps e
          exact ⟨more, lift _ _ (Nat.ne_of_lt (old _ _ e)) e2⟩
      have tab2 : ∀ (s₂ : Shared), (∀ b ∈ List.range h₃.objs.size, b ∉ [I] → ∀ o, href.get? b = some o → s₂.heap.get? b = some o) → Tabs s₂.heap := by
        intro s₂ hb
        have h300 : 300 < I := by
          obtain ⟨_, _, t2⟩ := B.t.b
          obtain ⟨⟨_, _, e, _⟩, _⟩ := t2
          exact old _ _ e
        exact t₃.at_ fun b o hb3 e => hb b (List.mem_range.mpr (Heap.lt_size e)) (by simpa using Nat.ne_of_lt (Nat.lt_of_le_of_lt hb3 h300)) o (hhref b o e)
      refine ⟨fun A' E' i v s₂ m₂ hA' hD' hU' hP hn hm hb => ?_, fun A' E' i v s₂ m₂ hA' hD' hU' hP _ hn hm hb => ?_⟩
      · exact wpAny_pure ⟨rfl, _, _, rfl, fun _ _ e => e⟩
      · exact helt A' E' code _ i v s₂ m₂ hA' hD' hU' (by simpa using hP) hn hm (Nat.le_of_lt hIlt) (soft2 s₂ hb) (tab2 s₂ hb)
    · intro a h₅ tk gs hgb hag hsz₅ hk₅ W hat
      have sf5 : Soft s.heap h₅ := sf0.then_keep hk₅
      refine h a _ rfl sf5 (t₃.keep hk₅) ?_
      intro Q' E' hQ'
      have W1 := W.in4_1
      have hlen : (passing (fun _ => true) vs.toArray.size 0).length = vs.length := by rw [passing_true]; simp
      have hval : ∀ j y, (∃ i, (passing (fun _ => true) vs.toArray.size 0)[j]? = some i ∧ ∃ u, y = Value.int (q i) u) → ∃ t, y = .int (q j) t := by
        rintro j y ⟨i, hi, u, rfl⟩
        rw [passing_true] at hi
        obtain ⟨hj, rfl⟩ := List.getElem?_eq_some_iff.mp hi
        rw [List.getElem_range]
        exact ⟨u, rfl⟩
      refine call_sum_walkS (W1.self 0 _ _ _ hat ⟨a, _, _, _, _, _, _, q, rfl, W1, hat, ?_, hval, by rw [hlen]; exact hfit, fun s' t' hm => ?_⟩)
      · intro b hb
        show b < h₅.objs.size
        rw [hsz₅]
        rcases List.mem_cons.mp hb with rfl | hb
        · exact Nat.lt_succ_self _
        · rcases List.mem_cons.mp hb with rfl | hb
          · exact Nat.lt_succ_of_lt hag
          · exact Nat.lt_succ_of_lt (Nat.lt_trans (List.mem_range.mp hb) hag)
      rw [hlen]
      have lift : ∀ b o, b < I → h₅.get? b = some o → s'.heap.get? b = some o := by
        intro b o hb e
        refine hm.heap b o ?_ e
        simp only [List.mem_cons, List.not_mem_nil, or_false, not_or]
        exact ⟨Nat.ne_of_lt (Nat.lt_trans hb hIlt), Nat.ne_of_lt hb⟩
      have h300 : 300 < I := by
        obtain ⟨_, _, t2⟩ := B.t.b
        obtain ⟨⟨_, _, e, _⟩, _⟩ := t2
        exact old _ _ e
      refine hQ' s' t' hm.os ((AllBare.push hG hgb).movedS hm) ⟨fun b o h1 h2 e => lift b o (old b o e) (sf5.keep b o h1 h2 e), fun ps e => ?_, fun ps e => ?_⟩ ((t₃.keep hk₅).at_ fun b o hb e => lift b o (Nat.lt_of_le_of_lt hb h300) e)
      · obtain ⟨more, e2⟩ := sf5.a ps e
        exact ⟨more, lift _ _ (old _ _ e) e2⟩
      · obtain ⟨more, e2⟩ := sf5.b ps e
        exact ⟨more, lift _ _ (old _ _ e) e2⟩
  obtain ⟨⟨ps, c1, c2⟩, ⟨qs, d1, d2⟩⟩ := id B2.t
  cases hca : codeAmong pos qs.toList with
  | none =>
    refine wpAny_genexprCodeX hcode d1 d2 hca fun c' h' tk hx hge hlt hc' _ ht' _ => ?_
    have sf : Soft (s.heap.push io) h' := ⟨fun b o _ h1 e => hx b o h1 e, fun ps' e => ⟨#[], by rw [Array.append_empty]; exact hx _ _ (by decide) e⟩, fun qs' e => by rw [d2.2] at e; cases e; exact ⟨_, ht'.2⟩⟩
    have t' : Tabs h' := ⟨⟨ps, c1.extBut hx (by decide) (by decide), c2.extBut hx (by decide) (by decide)⟩, ⟨_, hc', ht'⟩⟩
    have := common (.ref c') h' tk sf t' (Nat.le_trans hge (Nat.le_of_lt hlt))
    exact this
  | some c' =>
    refine wpAny_genexprCode_hit hcode d1 hca ?_
    have := common c' (s.heap.push io) s.toks (.of_keep fun _ _ e => e) B2.t (Nat.le_refl _)
    exact this
theorem gm_cell {scope : Scope} {cl : List (Str × Addr)} {C c : Addr} {code : Value} {env : Env} {x : Str} {pos : Pos} {o : Obj} {v : Value} {M : Model} {Q : Value → Shared → Prop} (hc : cl.lookup x = some c) (ho : s.heap.get? c = some o) (hd : o.data = .cell (some v)) (h : Q v s)
    (hk : (genEnv scope cl C code builtinsNs env).scope.kind = .function := by rfl) (hl : (genEnv scope cl C code builtinsNs env).kindOf x = some .free := by rfl) (hb : (x == ("__debug__" : Str)) = false := by decide) (hz : (x == ("__classdict__" : Str)) = false := by decide) :
    wpAny M A (eval (.Name x pos) (genEnv scope cl C code builtinsNs env)) Q E s := wpAny_Name (wpAny_loadName_free hk hl hc ⟨o, ho, hd⟩ h hz) hb
end

end

section
open PySem PySem.W PySem.Calls PyProof.Rows
set_option maxHeartbeats 4000000
local macro_rules | `(tactic| walk_at "call ref cons nil") => `(tactic| (k_here; (with_reducible show wpAny _ _ (call (Value.ref _) _ _) _ _ _); refine Halt.out ?_))
local macro_rules | `(tactic| walk_at "call builtin:all cons nil") => `(tactic| (k_here; (with_reducible show wpAny _ _ (call (Value.builtin "all") [Value.ref _] _) _ _ _); refine Halt.out ?_))
local macro_rules | `(tactic| walk_at "call builtin:sum cons nil") => `(tactic| (k_here; (with_reducible show wpAny _ _ (call (Value.builtin "sum") [Value.ref _] _) _ _ _); refine Halt.out ?_))
local macro_rules | `(tactic| walk_at "eval GeneratorExp Call cons") => `(tactic| (k_here; (with_reducible show wpAny _ _ (eval (Expr.GeneratorExp _ _ _ _) _) _ _ _); refine Halt.out ?_))
local macro_rules | `(tactic| walk_at "binaryOp Div int int") => `(tactic| (k_here; (with_reducible show wpAny _ _ (binaryOp Operator.Div _ _) _ _ _); refine Halt.out ?_))
local macro_rules | `(tactic| walk_at "binaryOp Div float int") => `(tactic| (k_here; (with_reducible show wpAny _ _ (binaryOp Operator.Div _ _) _ _ _); refine Halt.out ?_))
local macro_rules | `(tactic| walk_at "binaryOp Mult float int") => `(tactic| (k_here; (with_reducible show wpAny _ _ (binaryOp Operator.Mult (Value.float _ _) _) _ _ _); refine Halt.out ?_))
local macro_rules | `(tactic| walk_at "call builtin:min cons nil") => `(tactic| (k_here; (with_reducible show wpAny _ _ (call (Value.builtin "min") [Value.ref _] _) _ _ _); refine Halt.out ?_))
local macro_rules | `(tactic| walk_at "call ref nil") => `(tactic| (k_here; (with_reducible show wpAny _ _ (call (Value.ref _) _ _) _ _ _); refine Halt.out ?_))
local macro_rules | `(tactic| walk_at "call builtin:max cons nil") => `(tactic| (k_here; (with_reducible show wpAny _ _ (call (Value.builtin "max") [Value.ref _] _) _ _ _); refine Halt.out ?_))
local macro_rules | `(tactic| walk_at "pyIter ref") => `(tactic| (k_here; (with_reducible show wpAny _ _ (pyIter (Value.ref _)) _ _ _); refine Halt.out ?_))
/-- Tversky's answer -/
def tv2 (b : Bool) (n1 n2 : List Int) (z1 z2 : Int) (u : Tok) : Value := if n1 = n2 then .int 1 u else if n1 = [] ∨ n2 = [] then .int 0 u else .float (quo (cc b (cand (cnt n1) (cnt n2))) (cc b (cand (cnt n1) (cnt n2)) + z1 * (cc b (cnt n1) - cc b (cand (cnt n1) (cnt n2))) + z2 * (cc b (cnt n2) - cc b (cand (cnt n1) (cnt n2))))) u
theorem gives_tv2 {prog : Program} {w : World} {A : Around} {p : Program} {loose : List Str} {mg mb : Str → Option Value} {bm : Addr} {ob : Obj} {s : Shared} {x dx r1 r2 : Addr} {n : Nat} {b : Bool} {n1 n2 : List Int} {tq t1 t2 t3 t4 t5 : Tok} {ks : Addr} {z1 z2 : Int} {v1 v2 : Tok}
    (B : Bas w p loose mg mb bm ob s.heap) (hG : AllBare s.gens) (hA : A.handled = none) (hd : A.depth + 30 < recursionLimit) (hu : A.units + 150 < cLine)
    (M : Meas s.heap x dx 336 (attr5 w b ks tq t1 t2 t3 t4 t5) n) (R1 : RowAt s.heap r1 n1) (R2 : RowAt s.heap r2 n2) (hz1 : n1.length ≤ 100) (hz2 : n2.length ≤ 100)
    (HK : s.heap.IsList ks (List.toArray [.int z1 v1, .int z2 v2])) (hm1 : IntMulOk z1 (cc b (cnt n1) - cc b (cand (cnt n1) (cnt n2)))) (hm2 : IntMulOk z2 (cc b (cnt n2) - cc b (cand (cnt n1) (cnt n2)))) (hpos : ¬(n1 = [] ∨ n2 = []) → (cc b (cand (cnt n1) (cnt n2)) + z1 * (cc b (cnt n1) - cc b (cand (cnt n1) (cnt n2))) + z2 * (cc b (cnt n2) - cc b (cand (cnt n1) (cnt n2)))) ≠ 0) (hfit : (cc b (cand (cnt n1) (cnt n2))).natAbs < 2 ^ 1023) :
    CodeT (model prog w) A s (.call (.ref 333) ⟨[.ref x, .ref r1, .ref r2], []⟩) (fun v n => ∃ u, v = tv2 b n1 n2 z1 z2 u ∧ RecT v n) := by
  intro Q E hQ
  have X := B.X
  have T := B.T
  walk_at "m_enterVC"
  intro D L' h₁ tk cells F N Y hab hDL
  k_cells Y
  rename_i o' d'
  replace d' : o'.data = .cell (some (.ref x)) := d'
  replace N : News s.heap L' h₁ [(D, tupO [.ref r1, .ref r2]), (L' + 1, o')] := N
  k_steps
  all_goals (try (with_reducible show Halt (wpAny _ _ _ _ _ _); refine Halt.mk ?_))
  (with_reducible rename Fr _ _ _ _ => Fz)
  (with_reducible rename News _ _ _ _ => Nz)
  refine call_bound Nz (.head _) (gives_quick2 (X.keeps Fz.keep) (T.keeps Fz.keep) (by walk_at "m_hand") (by k_room) (by walk_at "m_units") (M.keep Fz.keep) (.t ..) (R1.keep Fz.keep) (R2.keep Fz.keep) hz1 hz2 _ _ ?_)
  intro u h2 tk2 k2
  have F2 := fr_grow Fz k2
  have N2 := news_grow Nz k2
  clear Fz Nz
  dsimp only
  by_cases hq : n1 = n2
  · rw [if_pos hq]
    k_steps
    all_goals (try (with_reducible show Halt (wpAny _ _ _ _ _ _); refine Halt.mk ?_))
    (with_reducible rename Fr _ _ _ _ => Fx)
    exact hQ _ _ rfl hG (.of_keep Fx.keep) (B.t.keep Fx.keep) ⟨u, by unfold tv2; rw [if_pos hq], trivial⟩
  · rw [if_neg hq]
    by_cases hm : n1 = [] ∨ n2 = []
    · rw [if_pos hm]
      k_steps
      all_goals (try (with_reducible show Halt (wpAny _ _ _ _ _ _); refine Halt.mk ?_))
      (with_reducible rename Fr _ _ _ _ => Fx)
      exact hQ _ _ rfl hG (.of_keep Fx.keep) (B.t.keep Fx.keep) ⟨u, by unfold tv2; rw [if_neg hq, if_pos hm], trivial⟩
    · rw [if_neg hm]
      k_steps
      all_goals (try (with_reducible show Halt (wpAny _ _ _ _ _ _); refine Halt.mk ?_))
      (with_reducible rename Fr _ _ _ _ => Fy)
      (with_reducible rename News _ _ _ _ => Ny)
      refine call_bound Ny (.head _) (gives_ctrs2 (B.keep Fy.keep) ?hg (by walk_at "m_hand") (by k_room) (by walk_at "m_units") (M.keep Fy.keep) (.t ..) (R1.keep Fy.keep) (R2.keep Fy.keep) hz1 hz2 _ _ ?_)
      case hg => exact hG
      rintro v s' hos' hG' sf' tb' ⟨l, c1, c2, rfl, ⟨⟨oc, od, odt, osl⟩, hlo, hlc, ln, hld⟩, hl0, C1, C2⟩
      dsimp only at hlc hld
      subst hlc hld
      obtain ⟨hB, sfB, tB, FB, hN, hdom⟩ := rebase B.t Fy sf' tb'
      obtain ⟨dx1, es1, m1, a1, b1, a10, b10, e1⟩ := C1.ex
      obtain ⟨dx2, es2, m2, a2, b2, a20, b20, e2⟩ := C2.ex
      have NB := news_fresh Fy hdom (news_fresh Fy hdom (news_fresh Fy hdom (news_fresh Fy hdom (news_fresh Fy hdom (hN _ Ny) b2 b20) a2 a20) b1 b10) a1 a10) hl0 hlo
      have BB := B.soft sfB tB
      have XB := BB.X
      have TB := BB.T
      have MB := sfB.meas B.t M
      clear Fy Ny hN X T
      k_steps
      all_goals (try (with_reducible show Halt (wpAny _ _ _ _ _ _); refine Halt.mk ?_))
      (with_reducible rename Fr _ _ _ _ => Fx)
      (with_reducible rename News _ _ _ _ => Nx)
      have Q1 := ctr_led Nx (x := c1) (by k_mem) (by k_mem) e1 C1.sys C1.nodup C1.small
      have Q2 := ctr_led Nx (x := c2) (by k_mem) (by k_mem) e2 C2.sys C2.nodup C2.small
      refine call_bound Nx (.head _) (gives_inter2 (XB.keeps Fx.keep) (TB.keeps Fx.keep) (BB.S.keep Fx.keep) (by walk_at "m_hand") (by k_room) (by walk_at "m_units") Q1 Q2 _ _ ?_)
      intro y hy tky ky Cy
      obtain ⟨dxy, esy, my, y1, y2, y3, y4, ey⟩ := Cy.ex
      have F3 := fr_grow Fx ky
      have N3 := news_add Fx (news_add Fx (news_grow Nx ky) y2 y4) y1 y3
      clear Fx Nx Q1 Q2
      k_steps
      all_goals (try (with_reducible show Halt (wpAny _ _ _ _ _ _); refine Halt.mk ?_))
      (with_reducible rename Fr _ _ _ _ => Fx)
      (with_reducible rename News _ _ _ _ => Nx)
      have Qy := ctr_led Nx (x := y) (by k_mem) (by k_mem) ey Cy.sys Cy.nodup Cy.small
      refine gives_count (XB.keeps Fx.keep) (TB.keeps Fx.keep) (by walk_at "m_hand") (by k_room) (by walk_at "m_units") (MB.keep Fx.keep) (.t ..) Qy _ _ ?_
      intro uc hc tkc kc
      have F4 := fr_grow Fx kc
      have N4 := news_grow Nx kc
      clear Fx Nx Qy
      obtain ⟨G, g1, g2⟩ := pick2 b (C1.at) (C2.at)
      k_steps
      all_goals (try (with_reducible show Halt (wpAny _ _ _ _ _ _); refine Halt.mk ?_))
      rotate_left 4
      (with_reducible rename Fr _ _ _ _ => Fx)
      (with_reducible rename News _ _ _ _ => Nx)
      refine ⟨⟨l, [.ref c1, .ref c2], _, _, rfl, ⟨{ cls := .type "list", dict := od, data := .seq #[.ref c1, .ref c2] ln, slots := osl }, Nx.get (by k_mem), rfl, ⟨ln, rfl⟩⟩, Nat.le_trans (m := 3) (Nat.le_of_ble_eq_true rfl) (Nat.le_of_ble_eq_true rfl), Fx, Nx, ?_, ?_⟩⟩
      · intro C v s3 m3 E' hv hn hm3 Fc Nc
        clear Fx Nx
        have P1 := ctr_led Nc (x := c1) (by k_mem) (by k_mem) e1 C1.sys C1.nodup C1.small
        have P2 := ctr_led Nc (x := c2) (by k_mem) (by k_mem) e2 C2.sys C2.nodup C2.small
        rcases List.mem_cons.mp hv with rfl | hv
        · k_steps
          all_goals (try (with_reducible show Halt (wpAny _ _ _ _ _ _); refine Halt.mk ?_))
          refine gives_count (XB.keeps Fc.keep) (TB.keeps Fc.keep) (by walk_at "m_hand") (by k_room) (by walk_at "m_units") (MB.keep Fc.keep) (.t ..) P1 _ _ ?_
          intro uv hv2 tkv kv
          exact ⟨⟨uv, by rw [g1]⟩, _, _, rfl, kv⟩
        rcases List.mem_cons.mp hv with rfl | hv
        · k_steps
          all_goals (try (with_reducible show Halt (wpAny _ _ _ _ _ _); refine Halt.mk ?_))
          refine gives_count (XB.keeps Fc.keep) (TB.keeps Fc.keep) (by walk_at "m_hand") (by k_room) (by walk_at "m_units") (MB.keep Fc.keep) (.t ..) P2 _ _ ?_
          intro uv hv2 tkv kv
          exact ⟨⟨uv, by rw [g2]⟩, _, _, rfl, kv⟩
        exact absurd hv (by simp)
      · intro D' h' tk' ts e F7 N7 hc7
        obtain ⟨w1, w2, rfl⟩ := counts2 hc7
        rw [g1, g2] at N7
        replace N7 : News hB _ h' ((D', PySem.W.listOf (List.toArray [.int (cc b (cnt n1)) w1, .int (cc b (cnt n2)) w2]) e) :: _) := N7
        clear Fx Nx
        have HB : hB.IsList ks (List.toArray [.int z1 v1, .int z2 v2]) := by obtain ⟨ko, q1, q2, q3⟩ := HK; exact ⟨ko, sfB.cls B.t q1 (by rw [q2]; exact fun e => by cases e), q2, q3⟩
        k_steps
        all_goals (try (with_reducible show Halt (wpAny _ _ _ _ _ _); refine Halt.mk ?_))
        refine ⟨?_⟩
        (rename Fr _ _ _ _ => lF')
        (with_unfolding_all refine' For_turns lF' ?_)
        k_whole
        k_steps
        all_goals (try (with_reducible show Halt (wpAny _ _ _ _ _ _); refine Halt.mk ?_))
        refine ⟨?_⟩
        (with_reducible rename Fr _ _ _ _ => Fy)
        (with_reducible rename News _ _ _ _ => Ny)
        refine ktu_zip (xs := [.int z1 v1, .int z2 v2]) (ys := [.int (cc b (cnt n1)) w1, .int (cc b (cnt n2)) w2]) (by walk_at "m_hand") Fy Ny (.head _) rfl rfl (by k_mem) rfl rfl ?_
        clear Fy
        intro i2 l1
        (try k_lt l1)
        k_steps
        all_goals (try (with_reducible show Halt (wpAny _ _ _ _ _ _); refine Halt.mk ?_))
        dsimp only
        refine PySem.Flt.div_ii_fits (by walk_at "m_hand") hfit (fun e => absurd e (hpos hm)) (fun _ _ => ?_)
        k_steps
        all_goals (try (with_reducible show Halt (wpAny _ _ _ _ _ _); refine Halt.mk ?_))
        (with_reducible rename Fr _ _ _ _ => Fx)
        exact hQ _ _ hos' hG' (sfB.then_keep Fx.keep) (tB.keep Fx.keep) ⟨_, by unfold tv2; rw [if_neg hq, if_neg hm]; rfl, .flt (by (try dsimp only); omega)⟩
      · exact PySem.Str.ofString "s"
      · exact (0 : Nat)
      · exact Value.none
/-- Tversky's answer -/
def tv3 (b : Bool) (n1 n2 n3 : List Int) (z1 z2 z3 : Int) (u : Tok) : Value := if n1 = n2 ∧ n1 = n3 then .int 1 u else if n1 = [] ∨ n2 = [] ∨ n3 = [] then .int 0 u else .float (quo (cc b (cand (cand (cnt n1) (cnt n2)) (cnt n3))) (cc b (cand (cand (cnt n1) (cnt n2)) (cnt n3)) + z1 * (cc b (cnt n1) - cc b (cand (cand (cnt n1) (cnt n2)) (cnt n3))) + z2 * (cc b (cnt n2) - cc b (cand (cand (cnt n1) (cnt n2)) (cnt n3))) + z3 * (cc b (cnt n3) - cc b (cand (cand (cnt n1) (cnt n2)) (cnt n3))))) u
theorem gives_tv3 {prog : Program} {w : World} {A : Around} {p : Program} {loose : List Str} {mg mb : Str → Option Value} {bm : Addr} {ob : Obj} {s : Shared} {x dx r1 r2 r3 : Addr} {n : Nat} {b : Bool} {n1 n2 n3 : List Int} {tq t1 t2 t3 t4 t5 : Tok} {ks : Addr} {z1 z2 z3 : Int} {v1 v2 v3 : Tok}
    (B : Bas w p loose mg mb bm ob s.heap) (hG : AllBare s.gens) (hA : A.handled = none) (hd : A.depth + 30 < recursionLimit) (hu : A.units + 150 < cLine)
    (M : Meas s.heap x dx 336 (attr5 w b ks tq t1 t2 t3 t4 t5) n) (R1 : RowAt s.heap r1 n1) (R2 : RowAt s.heap r2 n2) (R3 : RowAt s.heap r3 n3) (hz1 : n1.length ≤ 100) (hz2 : n2.length ≤ 100) (hz3 : n3.length ≤ 100)
    (HK : s.heap.IsList ks (List.toArray [.int z1 v1, .int z2 v2, .int z3 v3])) (hm1 : IntMulOk z1 (cc b (cnt n1) - cc b (cand (cand (cnt n1) (cnt n2)) (cnt n3)))) (hm2 : IntMulOk z2 (cc b (cnt n2) - cc b (cand (cand (cnt n1) (cnt n2)) (cnt n3)))) (hm3 : IntMulOk z3 (cc b (cnt n3) - cc b (cand (cand (cnt n1) (cnt n2)) (cnt n3)))) (hpos : ¬(n1 = [] ∨ n2 = [] ∨ n3 = []) → (cc b (cand (cand (cnt n1) (cnt n2)) (cnt n3)) + z1 * (cc b (cnt n1) - cc b (cand (cand (cnt n1) (cnt n2)) (cnt n3))) + z2 * (cc b (cnt n2) - cc b (cand (cand (cnt n1) (cnt n2)) (cnt n3))) + z3 * (cc b (cnt n3) - cc b (cand (cand (cnt n1) (cnt n2)) (cnt n3)))) ≠ 0) (hfit : (cc b (cand (cand (cnt n1) (cnt n2)) (cnt n3))).natAbs < 2 ^ 1023) :
    CodeT (model prog w) A s (.call (.ref 333) ⟨[.ref x, .ref r1, .ref r2, .ref r3], []⟩) (fun v n => ∃ u, v = tv3 b n1 n2 n3 z1 z2 z3 u ∧ RecT v n) := by
  intro Q E hQ
  have X := B.X
  have T := B.T
  walk_at "m_enterVC"
  intro D L' h₁ tk cells F N Y hab hDL
  k_cells Y
  rename_i o' d'
  replace d' : o'.data = .cell (some (.ref x)) := d'
  replace N : News s.heap L' h₁ [(D, tupO [.ref r1, .ref r2, .ref r3]), (L' + 1, o')] := N
  k_steps
  all_goals (try (with_reducible show Halt (wpAny _ _ _ _ _ _); refine Halt.mk ?_))
  (with_reducible rename Fr _ _ _ _ => Fz)
  (with_reducible rename News _ _ _ _ => Nz)
  refine call_bound Nz (.head _) (gives_quick3 (X.keeps Fz.keep) (T.keeps Fz.keep) (by walk_at "m_hand") (by k_room) (by walk_at "m_units") (M.keep Fz.keep) (.t ..) (R1.keep Fz.keep) (R2.keep Fz.keep) (R3.keep Fz.keep) hz1 hz2 hz3 _ _ ?_)
  intro u h2 tk2 k2
  have F2 := fr_grow Fz k2
  have N2 := news_grow Nz k2
  clear Fz Nz
  dsimp only
  by_cases hq : n1 = n2 ∧ n1 = n3
  · rw [if_pos hq]
    k_steps
    all_goals (try (with_reducible show Halt (wpAny _ _ _ _ _ _); refine Halt.mk ?_))
    (with_reducible rename Fr _ _ _ _ => Fx)
    exact hQ _ _ rfl hG (.of_keep Fx.keep) (B.t.keep Fx.keep) ⟨u, by unfold tv3; rw [if_pos hq], trivial⟩
  · rw [if_neg hq]
    by_cases hm : n1 = [] ∨ n2 = [] ∨ n3 = []
    · rw [if_pos hm]
      k_steps
      all_goals (try (with_reducible show Halt (wpAny _ _ _ _ _ _); refine Halt.mk ?_))
      (with_reducible rename Fr _ _ _ _ => Fx)
      exact hQ _ _ rfl hG (.of_keep Fx.keep) (B.t.keep Fx.keep) ⟨u, by unfold tv3; rw [if_neg hq, if_pos hm], trivial⟩
    · rw [if_neg hm]
      k_steps
      all_goals (try (with_reducible show Halt (wpAny _ _ _ _ _ _); refine Halt.mk ?_))
      (with_reducible rename Fr _ _ _ _ => Fy)
      (with_reducible rename News _ _ _ _ => Ny)
      refine call_bound Ny (.head _) (gives_ctrs3 (B.keep Fy.keep) ?hg (by walk_at "m_hand") (by k_room) (by walk_at "m_units") (M.keep Fy.keep) (.t ..) (R1.keep Fy.keep) (R2.keep Fy.keep) (R3.keep Fy.keep) hz1 hz2 hz3 _ _ ?_)
      case hg => exact hG
      rintro v s' hos' hG' sf' tb' ⟨l, c1, c2, c3, rfl, ⟨⟨oc, od, odt, osl⟩, hlo, hlc, ln, hld⟩, hl0, C1, C2, C3⟩
      dsimp only at hlc hld
      subst hlc hld
      obtain ⟨hB, sfB, tB, FB, hN, hdom⟩ := rebase B.t Fy sf' tb'
      obtain ⟨dx1, es1, m1, a1, b1, a10, b10, e1⟩ := C1.ex
      obtain ⟨dx2, es2, m2, a2, b2, a20, b20, e2⟩ := C2.ex
      obtain ⟨dx3, es3, m3, a3, b3, a30, b30, e3⟩ := C3.ex
      have NB := news_fresh Fy hdom (news_fresh Fy hdom (news_fresh Fy hdom (news_fresh Fy hdom (news_fresh Fy hdom (news_fresh Fy hdom (news_fresh Fy hdom (hN _ Ny) b3 b30) a3 a30) b2 b20) a2 a20) b1 b10) a1 a10) hl0 hlo
      have BB := B.soft sfB tB
      have XB := BB.X
      have TB := BB.T
      have MB := sfB.meas B.t M
      clear Fy Ny hN X T
      k_steps
      all_goals (try (with_reducible show Halt (wpAny _ _ _ _ _ _); refine Halt.mk ?_))
      (with_reducible rename Fr _ _ _ _ => Fx)
      (with_reducible rename News _ _ _ _ => Nx)
      have Q1 := ctr_led Nx (x := c1) (by k_mem) (by k_mem) e1 C1.sys C1.nodup C1.small
      have Q2 := ctr_led Nx (x := c2) (by k_mem) (by k_mem) e2 C2.sys C2.nodup C2.small
      have Q3 := ctr_led Nx (x := c3) (by k_mem) (by k_mem) e3 C3.sys C3.nodup C3.small
      refine call_bound Nx (.head _) (gives_inter3 (XB.keeps Fx.keep) (TB.keeps Fx.keep) (BB.S.keep Fx.keep) (by walk_at "m_hand") (by k_room) (by walk_at "m_units") Q1 Q2 Q3 _ _ ?_)
      intro y hy tky ky Cy
      obtain ⟨dxy, esy, my, y1, y2, y3, y4, ey⟩ := Cy.ex
      have F3 := fr_grow Fx ky
      have N3 := news_add Fx (news_add Fx (news_grow Nx ky) y2 y4) y1 y3
      clear Fx Nx Q1 Q2 Q3
      k_steps
      all_goals (try (with_reducible show Halt (wpAny _ _ _ _ _ _); refine Halt.mk ?_))
      (with_reducible rename Fr _ _ _ _ => Fx)
      (with_reducible rename News _ _ _ _ => Nx)
      have Qy := ctr_led Nx (x := y) (by k_mem) (by k_mem) ey Cy.sys Cy.nodup Cy.small
      refine gives_count (XB.keeps Fx.keep) (TB.keeps Fx.keep) (by walk_at "m_hand") (by k_room) (by walk_at "m_units") (MB.keep Fx.keep) (.t ..) Qy _ _ ?_
      intro uc hc tkc kc
      have F4 := fr_grow Fx kc
      have N4 := news_grow Nx kc
      clear Fx Nx Qy
      obtain ⟨G, g1, g2, g3⟩ := pick3 b (C1.at) (C2.at) (C3.at)
      k_steps
      all_goals (try (with_reducible show Halt (wpAny _ _ _ _ _ _); refine Halt.mk ?_))
      rotate_left 4
      (with_reducible rename Fr _ _ _ _ => Fx)
      (with_reducible rename News _ _ _ _ => Nx)
      refine ⟨⟨l, [.ref c1, .ref c2, .ref c3], _, _, rfl, ⟨{ cls := .type "list", dict := od, data := .seq #[.ref c1, .ref c2, .ref c3] ln, slots := osl }, Nx.get (by k_mem), rfl, ⟨ln, rfl⟩⟩, Nat.le_trans (m := 3) (Nat.le_of_ble_eq_true rfl) (Nat.le_of_ble_eq_true rfl), Fx, Nx, ?_, ?_⟩⟩
      · intro C v s3 m3 E' hv hn hm3 Fc Nc
        clear Fx Nx
        have P1 := ctr_led Nc (x := c1) (by k_mem) (by k_mem) e1 C1.sys C1.nodup C1.small
        have P2 := ctr_led Nc (x := c2) (by k_mem) (by k_mem) e2 C2.sys C2.nodup C2.small
        have P3 := ctr_led Nc (x := c3) (by k_mem) (by k_mem) e3 C3.sys C3.nodup C3.small
        rcases List.mem_cons.mp hv with rfl | hv
        · k_steps
          all_goals (try (with_reducible show Halt (wpAny _ _ _ _ _ _); refine Halt.mk ?_))
          refine gives_count (XB.keeps Fc.keep) (TB.keeps Fc.keep) (by walk_at "m_hand") (by k_room) (by walk_at "m_units") (MB.keep Fc.keep) (.t ..) P1 _ _ ?_
          intro uv hv2 tkv kv
          exact ⟨⟨uv, by rw [g1]⟩, _, _, rfl, kv⟩
        rcases List.mem_cons.mp hv with rfl | hv
        · k_steps
          all_goals (try (with_reducible show Halt (wpAny _ _ _ _ _ _); refine Halt.mk ?_))
          refine gives_count (XB.keeps Fc.keep) (TB.keeps Fc.keep) (by walk_at "m_hand") (by k_room) (by walk_at "m_units") (MB.keep Fc.keep) (.t ..) P2 _ _ ?_
          intro uv hv2 tkv kv
          exact ⟨⟨uv, by rw [g2]⟩, _, _, rfl, kv⟩
        rcases List.mem_cons.mp hv with rfl | hv
        · k_steps
          all_goals (try (with_reducible show Halt (wpAny _ _ _ _ _ _); refine Halt.mk ?_))
          refine gives_count (XB.keeps Fc.keep) (TB.keeps Fc.keep) (by walk_at "m_hand") (by k_room) (by walk_at "m_units") (MB.keep Fc.keep) (.t ..) P3 _ _ ?_
          intro uv hv2 tkv kv
          exact ⟨⟨uv, by rw [g3]⟩, _, _, rfl, kv⟩
        exact absurd hv (by simp)
      · intro D' h' tk' ts e F7 N7 hc7
        obtain ⟨w1, w2, w3, rfl⟩ := counts3 hc7
        rw [g1, g2, g3] at N7
        replace N7 : News hB _ h' ((D', PySem.W.listOf (List.toArray [.int (cc b (cnt n1)) w1, .int (cc b (cnt n2)) w2, .int (cc b (cnt n3)) w3]) e) :: _) := N7
        clear Fx Nx
        have HB : hB.IsList ks (List.toArray [.int z1 v1, .int z2 v2, .int z3 v3]) := by obtain ⟨ko, q1, q2, q3⟩ := HK; exact ⟨ko, sfB.cls B.t q1 (by rw [q2]; exact fun e => by cases e), q2, q3⟩
        k_steps
        all_goals (try (with_reducible show Halt (wpAny _ _ _ _ _ _); refine Halt.mk ?_))
        refine ⟨?_⟩
        (rename Fr _ _ _ _ => lF')
        (with_unfolding_all refine' For_turns lF' ?_)
        k_whole
        k_steps
        all_goals (try (with_reducible show Halt (wpAny _ _ _ _ _ _); refine Halt.mk ?_))
        refine ⟨?_⟩
        (with_reducible rename Fr _ _ _ _ => Fy)
        (with_reducible rename News _ _ _ _ => Ny)
        refine ktu_zip (xs := [.int z1 v1, .int z2 v2, .int z3 v3]) (ys := [.int (cc b (cnt n1)) w1, .int (cc b (cnt n2)) w2, .int (cc b (cnt n3)) w3]) (by walk_at "m_hand") Fy Ny (.head _) rfl rfl (by k_mem) rfl rfl ?_
        clear Fy
        intro i2 l1
        (try k_lt l1)
        k_steps
        all_goals (try (with_reducible show Halt (wpAny _ _ _ _ _ _); refine Halt.mk ?_))
        dsimp only
        refine PySem.Flt.div_ii_fits (by walk_at "m_hand") hfit (fun e => absurd e (hpos hm)) (fun _ _ => ?_)
        k_steps
        all_goals (try (with_reducible show Halt (wpAny _ _ _ _ _ _); refine Halt.mk ?_))
        (with_reducible rename Fr _ _ _ _ => Fx)
        exact hQ _ _ hos' hG' (sfB.then_keep Fx.keep) (tB.keep Fx.keep) ⟨_, by unfold tv3; rw [if_neg hq, if_neg hm]; rfl, .flt (by (try dsimp only); omega)⟩
      · exact PySem.Str.ofString "s"
      · exact (0 : Nat)
      · exact Value.none

end

open PySem PySem.W PySem.Calls PyProof.Rows
local macro_rules | `(tactic| walk_at "eval Name") => `(tactic| (k_here; (with_reducible show wpAny _ _ (eval (Expr.Name _ _) (genEnv _ _ _ _ _ _)) _ _ _); k_dflt (refine' gm_cell ?c ?o ?d ?_; (case c => exact rfl); (case o => assumption); (case d => assumption))))

section
open PySem PySem.W PySem.Calls PyProof.Rows
set_option maxHeartbeats 4000000
local macro_rules | `(tactic| walk_at "call ref cons nil") => `(tactic| (k_here; (with_reducible show wpAny _ _ (call (Value.ref _) _ _) _ _ _); refine Halt.out ?_))
local macro_rules | `(tactic| walk_at "call builtin:all cons nil") => `(tactic| (k_here; (with_reducible show wpAny _ _ (call (Value.builtin "all") [Value.ref _] _) _ _ _); refine Halt.out ?_))
local macro_rules | `(tactic| walk_at "call builtin:sum cons nil") => `(tactic| (k_here; (with_reducible show wpAny _ _ (call (Value.builtin "sum") [Value.ref _] _) _ _ _); refine Halt.out ?_))
local macro_rules | `(tactic| walk_at "eval GeneratorExp Call cons") => `(tactic| (k_here; (with_reducible show wpAny _ _ (eval (Expr.GeneratorExp _ _ _ _) _) _ _ _); refine Halt.out ?_))
local macro_rules | `(tactic| walk_at "getAttr ref true") => `(tactic| (k_here; (with_reducible show wpAny _ _ (getAttr (Value.ref _) (PySem.Str.ofString "_get_sequences") _) _ _ _); refine Halt.out ?_))
local macro_rules | `(tactic| walk_at "binaryOp Div int int") => `(tactic| (k_here; (with_reducible show wpAny _ _ (binaryOp Operator.Div _ _) _ _ _); refine Halt.out ?_))
local macro_rules | `(tactic| walk_at "binaryOp Div float int") => `(tactic| (k_here; (with_reducible show wpAny _ _ (binaryOp Operator.Div _ _) _ _ _); refine Halt.out ?_))
local macro_rules | `(tactic| walk_at "binaryOp Mult float int") => `(tactic| (k_here; (with_reducible show wpAny _ _ (binaryOp Operator.Mult (Value.float _ _) _) _ _ _); refine Halt.out ?_))
local macro_rules | `(tactic| walk_at "call builtin:min cons nil") => `(tactic| (k_here; (with_reducible show wpAny _ _ (call (Value.builtin "min") [Value.ref _] _) _ _ _); refine Halt.out ?_))
abbrev sq2 (a b : Int) (i : Nat) : Int := if i = 0 then a else b
theorem sum2 (a b : Int) : preSum (sq2 a b) 2 = a + b := by simp [preSum, sq2]
/-- Sorensen's answer -/
def sv2 (b : Bool) (n1 n2 : List Int) (u : Tok) : Value := if n1 = n2 then .int 1 u else if n1 = [] ∨ n2 = [] then .int 0 u else .float (Float64.div (Float64.mul 4611686018427387904 (Float64.ofInt (cc b (cand (cnt n1) (cnt n2))))) (Float64.ofInt (cc b (cnt n1) + cc b (cnt n2)))) u
theorem gives_sor2 {prog : Program} {w : World} {A : Around} {p : Program} {loose : List Str} {mg mb : Str → Option Value} {bm : Addr} {ob : Obj} {s : Shared} {x dx r1 r2 : Addr} {n : Nat} {b : Bool} {n1 n2 : List Int} {tq t1 t2 t3 : Tok}
    (B : Bas w p loose mg mb bm ob s.heap) (hG : AllBare s.gens) (hA : A.handled = none) (hd : A.depth + 30 < recursionLimit) (hu : A.units + 150 < cLine)
    (M : Meas s.heap x dx 304 (attr3 w b tq t1 t2 t3) n) (R1 : RowAt s.heap r1 n1) (R2 : RowAt s.heap r2 n2) (hz1 : n1.length ≤ 100) (hz2 : n2.length ≤ 100)
    (hsum : ∀ j, j < 2 → InLong (sq2 (cc b (cnt n1)) (cc b (cnt n2)) j) ∧ InLong (preSum (sq2 (cc b (cnt n1)) (cc b (cnt n2))) (j + 1)))
    (ho1 : ¬ PySem.Flt.Over (cc b (cand (cnt n1) (cnt n2)))) (ho2 : ¬ PySem.Flt.Over (cc b (cnt n1) + cc b (cnt n2))) (hpos : ¬(n1 = [] ∨ n2 = []) → cc b (cnt n1) + cc b (cnt n2) ≠ 0) :
    CodeT (model prog w) A s (.call (.ref 301) ⟨[.ref x, .ref r1, .ref r2], []⟩) (fun v n => ∃ u, v = sv2 b n1 n2 u ∧ RecT v n) := by
  intro Q E hQ
  have X := B.X
  have T := B.T
  walk_at "m_enterVC"
  intro D L' h₁ tk cells F N Y hab hDL
  k_cells Y
  rename_i o' d'
  replace d' : o'.data = .cell (some (.ref x)) := d'
  replace N : News s.heap L' h₁ [(D, tupO [.ref r1, .ref r2]), (L' + 1, o')] := N
  k_steps
  all_goals (try (with_reducible show Halt (wpAny _ _ _ _ _ _); refine Halt.mk ?_))
  (with_reducible rename Fr _ _ _ _ => Fz)
  (with_reducible rename News _ _ _ _ => Nz)
  refine call_bound Nz (.head _) (gives_quick2 (X.keeps Fz.keep) (T.keeps Fz.keep) (by walk_at "m_hand") (by k_room) (by walk_at "m_units") (M.keep Fz.keep) (.s ..) (R1.keep Fz.keep) (R2.keep Fz.keep) hz1 hz2 _ _ ?_)
  intro u h2 tk2 k2
  have F2 := fr_grow Fz k2
  have N2 := news_grow Nz k2
  clear Fz Nz
  dsimp only
  by_cases hq : n1 = n2
  · rw [if_pos hq]
    k_steps
    all_goals (try (with_reducible show Halt (wpAny _ _ _ _ _ _); refine Halt.mk ?_))
    (with_reducible rename Fr _ _ _ _ => Fx)
    exact hQ _ _ rfl hG (.of_keep Fx.keep) (B.t.keep Fx.keep) ⟨u, by unfold sv2; rw [if_pos hq], trivial⟩
  · rw [if_neg hq]
    by_cases hm : n1 = [] ∨ n2 = []
    · rw [if_pos hm]
      k_steps
      all_goals (try (with_reducible show Halt (wpAny _ _ _ _ _ _); refine Halt.mk ?_))
      (with_reducible rename Fr _ _ _ _ => Fx)
      exact hQ _ _ rfl hG (.of_keep Fx.keep) (B.t.keep Fx.keep) ⟨u, by unfold sv2; rw [if_neg hq, if_pos hm], trivial⟩
    · rw [if_neg hm]
      k_steps
      all_goals (try (with_reducible show Halt (wpAny _ _ _ _ _ _); refine Halt.mk ?_))
      (with_reducible rename Fr _ _ _ _ => Fy)
      (with_reducible rename News _ _ _ _ => Ny)
      refine call_bound Ny (.head _) (gives_ctrs2 (B.keep Fy.keep) ?hg (by walk_at "m_hand") (by k_room) (by walk_at "m_units") (M.keep Fy.keep) (.s ..) (R1.keep Fy.keep) (R2.keep Fy.keep) hz1 hz2 _ _ ?_)
      case hg => exact hG
      rintro v s' hos' hG' sf' tb' ⟨l, c1, c2, rfl, ⟨⟨oc, od, odt, osl⟩, hlo, hlc, ln, hld⟩, hl0, C1, C2⟩
      dsimp only at hlc hld
      subst hlc hld
      obtain ⟨hB, sfB, tB, FB, hN, hdom⟩ := rebase B.t Fy sf' tb'
      obtain ⟨dx1, es1, m1, a1, b1, a10, b10, e1⟩ := C1.ex
      obtain ⟨dx2, es2, m2, a2, b2, a20, b20, e2⟩ := C2.ex
      have NB := news_fresh Fy hdom (news_fresh Fy hdom (news_fresh Fy hdom (news_fresh Fy hdom (news_fresh Fy hdom (hN _ Ny) b2 b20) a2 a20) b1 b10) a1 a10) hl0 hlo
      have BB := B.soft sfB tB
      have XB := BB.X
      have TB := BB.T
      have MB := sfB.meas B.t M
      clear Fy Ny hN X T
      k_steps
      all_goals (try (with_reducible show Halt (wpAny _ _ _ _ _ _); refine Halt.mk ?_))
      (with_reducible rename Fr _ _ _ _ => Fx)
      (with_reducible rename News _ _ _ _ => Nx)
      have BX := BB.keep Fx.keep
      have MX := MB.keep Fx.keep
      have Q1 := ctr_led Nx (x := c1) (by k_mem) (by k_mem) e1 C1.sys C1.nodup C1.small
      have Q2 := ctr_led Nx (x := c2) (by k_mem) (by k_mem) e2 C2.sys C2.nodup C2.small
      refine gen_sum (vs := [.ref c1, .ref c2]) (q := sq2 (cc b (cnt n1)) (cc b (cnt n2))) BX ?hg2 rfl rfl (by walk_at "m_hand") rfl rfl (by decide) rfl rfl rfl (by k_room) ⟨_, Nx.get (by k_mem), rfl, ln, rfl⟩ hsum ?_ ?_ ?_ (by intro _; rfl)
      case hg2 => exact hG'
      · intro Q' E' q
        k_steps
        all_goals (try (with_reducible show Halt (wpAny _ _ _ _ _ _); refine Halt.mk ?_))
        exact q
      · intro A' E' code C i v s₂ m₂ hA' hdep' hun' hvi hn hm hC sf tb
        simp only [Around.deeper, Around.in1, depth_mark, units_deeper] at hdep' hun'
        obtain ⟨hB3, sf3, tb3, F3, hN3, _⟩ := rebase BB.t Fx sf tb
        have N3 := hN3 _ Nx
        have Fc : Fr hB3 C s₂.heap m₂ := ⟨hn, F3.keep, Nat.le_trans F3.above (Nat.le_of_lt (Nat.lt_of_lt_of_le Fx.ns.lt hC))⟩
        have Nc : News hB3 C s₂.heap _ := fun q hq => ⟨(N3 q hq).1, Nat.ne_of_lt (Nat.lt_of_lt_of_le (Heap.lt_size (Nx q hq).1) hC), (N3 q hq).2.2⟩
        have hcell : s₂.heap.get? (L' + 1) = some o' := Nc.get (by k_mem)
        have B3 := BB.soft sf3 tb3
        have X3 := B3.X
        have T3 := B3.T
        have M3 := sf3.meas BB.t MB
        have P1 := sf.ctr BX.t Q1
        have P2 := sf.ctr BX.t Q2
        clear Fx Nx XB TB F3 N3 hN3
        rcases i with _ | _ | i
        · cases hvi
          k_steps
          all_goals (try (with_reducible show Halt (wpAny _ _ _ _ _ _); refine Halt.mk ?_))
          refine gives_count (X3.keeps Fc.keep) (T3.keeps Fc.keep) (by walk_at "m_hand") (by k_room) (by walk_at "m_units") (M3.keep Fc.keep) (.s ..) P1 _ _ ?_
          intro uv hv2 tkv kv
          exact ⟨⟨uv, rfl⟩, _, _, rfl, kv⟩
        · cases hvi
          k_steps
          all_goals (try (with_reducible show Halt (wpAny _ _ _ _ _ _); refine Halt.mk ?_))
          refine gives_count (X3.keeps Fc.keep) (T3.keeps Fc.keep) (by walk_at "m_hand") (by k_room) (by walk_at "m_units") (M3.keep Fc.keep) (.s ..) P2 _ _ ?_
          intro uv hv2 tkv kv
          exact ⟨⟨uv, rfl⟩, _, _, rfl, kv⟩
        · cases hvi
      · intro a s₁ hos sf t1 hcall
        have X1 := sf.frag BX.X
        k_steps
        all_goals (try (with_reducible show Halt (wpAny _ _ _ _ _ _); refine Halt.mk ?_))
        refine hcall _ _ ?_
        intro s2 t2 hos2 hG2 sf2 tb2
        obtain ⟨hB2, sfB2, tB2, FB2, hN2, hdom2⟩ := rebase BB.t Fx sf2 tb2
        have NB2 := hN2 _ Nx
        have BB2 := BB.soft sfB2 tB2
        have XB2 := BB2.X
        have TB2 := BB2.T
        have MB2 := sfB2.meas BB.t MB
        clear Fx Nx XB TB X1 hN2 Q1 Q2
        rw [show preSum (sq2 (cc b (cnt n1)) (cc b (cnt n2))) [Value.ref c1, Value.ref c2].length = cc b (cnt n1) + cc b (cnt n2) from sum2 _ _]
        k_steps
        all_goals (try (with_reducible show Halt (wpAny _ _ _ _ _ _); refine Halt.mk ?_))
        (with_reducible rename Fr _ _ _ _ => Fx)
        (with_reducible rename News _ _ _ _ => Nx)
        have Q1 := ctr_led Nx (x := c1) (by k_mem) (by k_mem) e1 C1.sys C1.nodup C1.small
        have Q2 := ctr_led Nx (x := c2) (by k_mem) (by k_mem) e2 C2.sys C2.nodup C2.small
        refine call_bound Nx (.head _) (gives_inter2 (XB2.keeps Fx.keep) (TB2.keeps Fx.keep) (BB2.S.keep Fx.keep) (by walk_at "m_hand") (by k_room) (by walk_at "m_units") Q1 Q2 _ _ ?_)
        intro y hy tky ky Cy
        obtain ⟨dxy, esy, my, y1, y2, y3, y4, ey⟩ := Cy.ex
        have F3 := fr_grow Fx ky
        have N3 := news_add Fx (news_add Fx (news_grow Nx ky) y2 y4) y1 y3
        clear Fx Nx Q1 Q2
        k_steps
        all_goals (try (with_reducible show Halt (wpAny _ _ _ _ _ _); refine Halt.mk ?_))
        (with_reducible rename Fr _ _ _ _ => Fx)
        (with_reducible rename News _ _ _ _ => Nx)
        have Qy := ctr_led Nx (x := y) (by k_mem) (by k_mem) ey Cy.sys Cy.nodup Cy.small
        refine gives_count (XB2.keeps Fx.keep) (TB2.keeps Fx.keep) (by walk_at "m_hand") (by k_room) (by walk_at "m_units") (MB2.keep Fx.keep) (.s ..) Qy _ _ ?_
        intro uc hc tkc kc
        have F4 := fr_grow Fx kc
        have N4 := news_grow Nx kc
        clear Fx Nx Qy
        k_steps
        all_goals (try (with_reducible show Halt (wpAny _ _ _ _ _ _); refine Halt.mk ?_))
        refine AutoFloatOps.mul_fi_1 (PySem.Flt.fin_of_fits ho1) ?_
        dsimp only [Made.post]
        k_steps
        all_goals (try (with_reducible show Halt (wpAny _ _ _ _ _ _); refine Halt.mk ?_))
        refine AutoFloatOps.truediv_fi_2 (PySem.Flt.fin_of_fits ho2) (PySem.Flt.nz_ofInt (hpos hm)) ?_
        dsimp only [Made.post]
        k_steps
        all_goals (try (with_reducible show Halt (wpAny _ _ _ _ _ _); refine Halt.mk ?_))
        (with_reducible rename Fr _ _ _ _ => Fx)
        exact hQ _ _ (hos2.trans hos') hG2 ((sfB.trans sfB2).then_keep Fx.keep) (tB2.keep Fx.keep) ⟨_, by unfold sv2; rw [if_neg hq, if_neg hm], .flt (by (try dsimp only); omega)⟩

end

section
open PySem PySem.W PySem.Calls PyProof.Rows
set_option maxHeartbeats 400000
theorem sum_le {ks : List Int} {f g : Int → Int} (h : ∀ x ∈ ks, f x ≤ g x) : (ks.map f).sum ≤ (ks.map g).sum := by
  induction ks with
  | nil => exact Int.le_refl _
  | cons z zs ih =>
    simp only [List.map_cons, List.sum_cons]
    have := ih fun x hx => h x (.tail _ hx)
    have := h z (.head _)
    omega
theorem sum_const0 (ks : List Int) : (ks.map fun _ => (0 : Int)).sum = 0 := sum_zero fun _ _ => rfl
theorem sum_nonneg {ks : List Int} {f : Int → Int} (h : ∀ x ∈ ks, 0 ≤ f x) : 0 ≤ (ks.map f).sum := by
  have := sum_le (ks := ks) (f := fun _ => 0) (g := f) h
  rw [sum_const0] at this
  exact this
theorem sum_count {ks : List Int} (hk : ks.Nodup) : ∀ n : List Int, (ks.map fun x => (n.count x : Int)).sum ≤ n.length
  | [] => by rw [sum_zero]; exact Int.le_refl _; intro x _; rfl
  | a :: n => by
    have ih := sum_count hk n
    have h : ∀ ks : List Int, ks.Nodup → (ks.map fun x => ((a :: n).count x : Int)).sum ≤ (ks.map fun x => (n.count x : Int)).sum + 1 := by
      intro ks hk
      by_cases ha : a ∈ ks
      · have e : ∀ (g : Int → Int) (ks : List Int), ks.Nodup → (ks.map fun x => g x + if a = x then 1 else 0).sum ≤ (ks.map g).sum + 1 ∧ (a ∉ ks → (ks.map fun x => g x + if a = x then 1 else 0).sum = (ks.map g).sum) := by
          intro g ks hk
          induction ks with
          | nil => exact ⟨by simp, fun _ => rfl⟩
          | cons z zs ih =>
            rw [List.nodup_cons] at hk
            obtain ⟨i1, i2⟩ := ih hk.2
            simp only [List.map_cons, List.sum_cons]
            by_cases q : a = z
            · subst q
              have := i2 hk.1
              refine ⟨by rw [if_pos rfl]; omega, fun hn => absurd (List.mem_cons_self ..) hn⟩
            · refine ⟨by rw [if_neg q]; omega, fun hn => ?_⟩
              have := i2 fun hm => hn (List.mem_cons_of_mem _ hm)
              rw [if_neg q]; omega
        have e2 : (ks.map fun x => ((a :: n).count x : Int)) = ks.map fun x => (n.count x : Int) + if a = x then 1 else 0 := by
          refine List.map_congr_left fun x _ => ?_
          rw [List.count_cons]
          by_cases q : a = x <;> simp [q]
        rw [e2]
        exact (e (fun x => (n.count x : Int)) ks hk).1
      · have e2 : (ks.map fun x => ((a :: n).count x : Int)) = ks.map fun x => (n.count x : Int) := by
          refine List.map_congr_left fun x hx => ?_
          have q : ¬ a = x := fun e => ha (by rw [e]; exact hx)
          rw [List.count_cons]; simp [q]
        rw [e2]; omega
    have := h ks hk
    simp only [List.length_cons]
    omega
theorem mny_nonneg (b : Bool) (n : List Int) (x : Int) : 0 ≤ mny b n x := by unfold mny; split <;> omega
theorem mny_le (b : Bool) (n : List Int) (x : Int) : mny b n x ≤ n.count x := by unfold mny; split <;> omega
theorem mny_pos (b : Bool) {n : List Int} {x : Int} (h : x ∈ n) : 1 ≤ mny b n x := by
  have := List.count_pos_iff.mpr h
  unfold mny; split <;> omega
/-- a list of all letters -/
abbrev kinds (n : List Int) : List Int := (cnt n).map (·.1)
theorem kinds_nodup (n : List Int) : (kinds n).Nodup := cnt_nodup n
theorem kinds_mem {n : List Int} {x : Int} (h : x ∈ n) : x ∈ kinds n := (cnt_keys n x).mpr h
section
variable {b : Bool} {n1 n2 n3 : List Int}
theorem size_nonneg : 0 ≤ cc b (cnt n1) := by
  rw [law_size (kinds_nodup n1) fun x hx => kinds_mem hx]
  exact sum_nonneg fun x _ => mny_nonneg b n1 x
theorem size_le : cc b (cnt n1) ≤ n1.length := by
  rw [law_size (kinds_nodup n1) fun x hx => kinds_mem hx]
  exact Int.le_trans (sum_le fun x _ => mny_le b n1 x) (sum_count (kinds_nodup n1) n1)
theorem size_pos (h : n1 ≠ []) : 1 ≤ cc b (cnt n1) := by
  rw [law_size (kinds_nodup n1) fun x hx => kinds_mem hx]
  obtain ⟨a, l, rfl⟩ := List.exists_cons_of_ne_nil h
  have hm : a ∈ kinds (a :: l) := kinds_mem (.head _)
  have : ∀ ks : List Int, a ∈ ks → 1 ≤ (ks.map (mny b (a :: l))).sum := by
    intro ks
    induction ks with
    | nil => intro h; cases h
    | cons z zs ih =>
      intro h
      simp only [List.map_cons, List.sum_cons]
      have h0 := sum_nonneg (ks := zs) fun x _ => mny_nonneg b (a :: l) x
      have h1 := mny_nonneg b (a :: l) z
      rcases List.mem_cons.mp h with e | h
      · have := mny_pos b (n := a :: l) (x := z) (by rw [← e]; exact .head _)
        omega
      · have := ih h; omega
  exact this _ hm
theorem and2_nonneg : 0 ≤ cc b (cand (cnt n1) (cnt n2)) := by
  rw [law_and2 (kinds_nodup n1) fun x hx => kinds_mem hx]
  exact sum_nonneg fun x _ => by have := mny_nonneg b n1 x; have := mny_nonneg b n2 x; omega
theorem and2_le1 : cc b (cand (cnt n1) (cnt n2)) ≤ cc b (cnt n1) := by
  rw [law_and2 (kinds_nodup n1) fun x hx => kinds_mem hx, law_size (kinds_nodup n1) fun x hx => kinds_mem hx]
  exact sum_le fun x _ => by omega
theorem cover (n1 n2 n3 : List Int) : ∃ ks : List Int, ks.Nodup ∧ (∀ x ∈ n1, x ∈ ks) ∧ (∀ x ∈ n2, x ∈ ks) ∧ ∀ x ∈ n3, x ∈ ks :=
  ⟨kinds (n1 ++ n2 ++ n3), kinds_nodup _, fun x h => kinds_mem (by simp [h]), fun x h => kinds_mem (by simp [h]), fun x h => kinds_mem (by simp [h])⟩
theorem and2_le2 : cc b (cand (cnt n1) (cnt n2)) ≤ cc b (cnt n2) := by
  obtain ⟨ks, hk, h1, h2, _⟩ := cover n1 n2 []
  rw [law_and2 hk h1, law_size hk h2]
  exact sum_le fun x _ => by omega
theorem and3_nonneg : 0 ≤ cc b (cand (cand (cnt n1) (cnt n2)) (cnt n3)) := by
  rw [law_and3 (kinds_nodup n1) fun x hx => kinds_mem hx]
  exact sum_nonneg fun x _ => by have := mny_nonneg b n1 x; have := mny_nonneg b n2 x; have := mny_nonneg b n3 x; omega
theorem and3_le1 : cc b (cand (cand (cnt n1) (cnt n2)) (cnt n3)) ≤ cc b (cnt n1) := by
  obtain ⟨ks, hk, h1, h2, h3⟩ := cover n1 n2 n3
  rw [law_and3 hk h1, law_size hk h1]
  exact sum_le fun x _ => by omega
theorem and3_le2 : cc b (cand (cand (cnt n1) (cnt n2)) (cnt n3)) ≤ cc b (cnt n2) := by
  obtain ⟨ks, hk, h1, h2, h3⟩ := cover n1 n2 n3
  rw [law_and3 hk h1, law_size hk h2]
  exact sum_le fun x _ => by omega
theorem and3_le3 : cc b (cand (cand (cnt n1) (cnt n2)) (cnt n3)) ≤ cc b (cnt n3) := by
  obtain ⟨ks, hk, h1, h2, h3⟩ := cover n1 n2 n3
  rw [law_and3 hk h1, law_size hk h3]
  exact sum_le fun x _ => by omega
theorem or2_ge : cc b (cnt n1) ≤ cc b (cor (cnt n1) (cnt n2)) := by
  obtain ⟨ks, hk, h1, h2, h3⟩ := cover n1 n2 []
  rw [law_or2 hk h1 h2, law_size hk h1]
  exact sum_le fun x _ => by omega
theorem or3_ge : cc b (cnt n1) ≤ cc b (cor (cor (cnt n1) (cnt n2)) (cnt n3)) := by
  obtain ⟨ks, hk, h1, h2, h3⟩ := cover n1 n2 n3
  rw [law_or3 hk h1 h2 h3, law_size hk h1]
  exact sum_le fun x _ => by omega
theorem or2_le : cc b (cor (cnt n1) (cnt n2)) ≤ cc b (cnt n1) + cc b (cnt n2) := by
  obtain ⟨ks, hk, h1, h2, h3⟩ := cover n1 n2 []
  have e : ∀ ks : List Int, (ks.map fun x => mny b n1 x + mny b n2 x).sum = (ks.map (mny b n1)).sum + (ks.map (mny b n2)).sum := by
    intro ks
    induction ks with
    | nil => rfl
    | cons z zs ih => simp only [List.map_cons, List.sum_cons]; omega
  rw [law_or2 hk h1 h2, law_size hk h1, law_size hk h2, ← e]
  exact sum_le fun x _ => by have := mny_nonneg b n1 x; have := mny_nonneg b n2 x; omega
theorem and2_comm : cc b (cand (cnt n1) (cnt n2)) = cc b (cand (cnt n2) (cnt n1)) := by
  obtain ⟨ks, hk, h1, h2, h3⟩ := cover n1 n2 []
  rw [law_and2 hk h1, law_and2 hk h2]
  congr 1
  exact List.map_congr_left fun x _ => by omega
theorem or2_comm : cc b (cor (cnt n1) (cnt n2)) = cc b (cor (cnt n2) (cnt n1)) := by
  obtain ⟨ks, hk, h1, h2, h3⟩ := cover n1 n2 []
  rw [law_or2 hk h1 h2, law_or2 hk h2 h1]
  congr 1
  exact List.map_congr_left fun x _ => by omega
end
theorem abs_small {a : Int} (h0 : 0 ≤ a) (h : a ≤ 1000) : a.natAbs < 2 ^ 1023 := by
  have h1 : a.natAbs < 2 ^ 10 := by omega
  exact Nat.lt_trans h1 (Nat.pow_lt_pow_of_lt (by decide) (by decide))
theorem over_small {a : Int} (h0 : 0 ≤ a) (h : a ≤ 1000) : ¬ PySem.Flt.Over a := by
  have h1 : a.natAbs < 2 ^ 10 := by omega
  have h2 : (2 : Nat) ^ 10 ≤ 2 ^ 1024 - 2 ^ 970 := by decide +kernel
  exact Nat.not_le.mpr (Nat.lt_of_lt_of_le h1 h2)
theorem long_small {a : Int} (h0 : 0 ≤ a) (h : a ≤ 1000) : InLong a := ⟨by omega, by omega⟩
theorem mul_small {a c : Int} (h0 : 0 ≤ a) (h : a ≤ 5) : IntMulOk a c := by
  refine IntMulOk.of_left ?_
  rcases (by omega : a = 0 ∨ a = 1 ∨ a = 2 ∨ a = 3 ∨ a = 4 ∨ a = 5) with rfl | rfl | rfl | rfl | rfl | rfl <;> decide
theorem sq_small {a b : Int} (h0 : 0 ≤ a) (h : a ≤ 100) (h1 : 0 ≤ b) (h2 : b ≤ 100) : ∀ j, j < 2 → InLong (sq2 a b j) ∧ InLong (preSum (sq2 a b) (j + 1)) := by
  intro j hj
  rcases j with _ | _ | j
  · exact ⟨long_small h0 (by simp only [sq2, if_true]; omega), by simp only [preSum, sq2, if_true]; exact long_small (by omega) (by omega)⟩
  · refine ⟨long_small (a := sq2 a b 1) ?_ ?_, ?_⟩
    · simp [sq2]; omega
    · simp [sq2]; omega
    · rw [sum2]; exact long_small (by omega) (by omega)
  · omega

end

section
open PySem PySem.W PySem.Calls PyProof.Rows
set_option maxHeartbeats 400000
/-- a told value and its due are the same number -/
def Same (f : Tok → Value) (y : Value) : Prop := (∃ k, (∀ u, f u = .int k u) ∧ ∃ t, y = .int k t) ∨ ∃ x, (∀ u, f u = .float x u) ∧ Float64.isNaN x = false ∧ ∃ t, t ≠ 0 ∧ y = .float x t
theorem Same.int {f : Tok → Value} {k : Int} {t : Tok} (h : ∀ u, f u = .int k u) : Same f (.int k t) := .inl ⟨k, h, t, rfl⟩
theorem Same.flt {f : Tok → Value} {x : UInt64} {t : Tok} (ht : t ≠ 0) (h : ∀ u, f u = .float x u) (hn : Float64.isNaN x = false) : Same f (.float x t) := .inr ⟨x, h, hn, t, ht, rfl⟩
theorem quo_nan (a c : Int) : Float64.isNaN (quo a c) = false := by
  unfold quo
  rw [show Float64.ofFrac (decide (a < 0) != decide (c < 0)) a.natAbs c.natAbs = Float64.pack (decide (a < 0) != decide (c < 0)) (Float64.roundMag a.natAbs c.natAbs) by unfold Float64.ofFrac; rfl]
  exact PySem.W.isNaN_pack (decide (a < 0) != decide (c < 0)) (PySem.W.roundMag_le a.natAbs c.natAbs)
theorem sor_quo {S T : Int} (h0 : 0 ≤ S) (h1 : S ≤ 17) (h2 : 1 ≤ T) (h3 : T ≤ 39) : Float64.div (Float64.mul 4611686018427387904 (Float64.ofInt S)) (Float64.ofInt T) = quo (2 * S) T := by
  obtain ⟨a, rfl⟩ := Int.eq_ofNat_of_zero_le h0
  obtain ⟨c, rfl⟩ := Int.eq_ofNat_of_zero_le (show 0 ≤ T by omega)
  have := sor_float ⟨a, by omega⟩ ⟨c, by omega⟩ (by show c ≠ 0; omega)
  unfold quo
  rw [show decide ((2 * ((a : Nat) : Int)) < 0) = false by simp; omega, show decide (((c : Nat) : Int) < 0) = false by simp]
  rw [show Int.natAbs (2 * ((a : Nat) : Int)) = 2 * a by omega, show Int.natAbs ((c : Nat) : Int) = c by omega]
  have e2 : Float64.ofInt 2 = 4611686018427387904 := by decide +kernel
  rw [← e2]
  exact this
theorem neg_nan {y : UInt64} (h : Float64.isNaN y = false) : Float64.isNaN (Float64.neg y) = false := by
  have e := (PySem.Float64.neg_toNat h).1
  have a : ¬ (y.toNat / 2 ^ 52 % 2048 = 2047 ∧ y.toNat % 2 ^ 52 ≠ 0) := fun c => by rw [(PySem.W.isNaN_iff y).mpr c] at h; cases h
  refine Bool.eq_false_iff.mpr fun c => a ?_
  obtain ⟨c1, c2⟩ := (PySem.W.isNaN_iff _).mp c
  constructor <;> omega
theorem add_nan {x y : UInt64} {a : Bool} {m : Nat} {e : Int} (hx : Float64.decode x = .fin a m e) (hy : Float64.isNaN y = false) : Float64.isNaN (Float64.add x y) = false := by
  unfold Float64.add
  rw [hx]
  cases h : Float64.decode y with
  | nan => unfold Float64.isNaN at hy; rw [h] at hy; cases hy
  | inf b => exact hy
  | fin b k f =>
    dsimp only
    split
    · exact PySem.W.isNaN_pack _ (Nat.zero_le _)
    · unfold Float64.ofBin
      dsimp only
      unfold Float64.ofFrac
      exact PySem.W.isNaN_pack _ (PySem.W.roundMag_le _ _)
theorem sub_nan {S T : Int} (_ : 0 ≤ S) (_ : S ≤ 39) (_ : 1 ≤ T) (_ : T ≤ 39) : Float64.isNaN (Float64.sub (Float64.ofInt 1) (quo S T)) = false := by
  unfold Float64.sub
  exact add_nan (x := Float64.ofInt 1) (a := false) (m := 2 ^ 52) (e := -52) (by kernel_rfl) (neg_nan (quo_nan S T))

end

section
open PySem PySem.W PySem.Calls PyProof.Rows
set_option maxHeartbeats 400000
/-- is the k-th letter of a row new? -/
def newAt (kd ns : List Int) (k : Nat) : Bool := !((ns.take k).any (· == ns.getD k 0)) && !(kd.any (· == ns.getD k 0))
def firsts (kd ns : List Int) : List Int := ((List.range ns.length).filter (newAt kd ns)).map fun k => ns.getD k 0
def fk (kd ns : List Int) : List Int := kd ++ firsts kd ns
theorem any_mem (l : List Int) (x : Int) : (l.any (· == x)) = decide (x ∈ l) := by
  induction l with
  | nil => simp
  | cons a l ih =>
    rw [List.any_cons, ih]
    by_cases e : a = x
    · subst e; simp
    · have e' : ¬ x = a := fun q => e q.symm
      simp [e, e']
theorem mem_firsts {kd ns : List Int} {x : Int} (h : x ∈ firsts kd ns) : x ∈ ns ∧ x ∉ kd := by
  unfold firsts at h
  obtain ⟨k, hk, rfl⟩ := List.mem_map.mp h
  obtain ⟨h1, h2⟩ := List.mem_filter.mp hk
  have hlt := List.mem_range.mp h1
  unfold newAt at h2
  rw [any_mem, any_mem] at h2
  simp only [Bool.and_eq_true, Bool.not_eq_true', decide_eq_false_iff_not] at h2
  refine ⟨?_, h2.2⟩
  rw [List.getD_eq_getElem?_getD, List.getElem?_eq_getElem hlt]
  exact List.getElem_mem hlt
theorem firsts_nodup (kd ns : List Int) : (firsts kd ns).Nodup := by
  unfold firsts
  have key : ∀ l : List Nat, l.Pairwise (· < ·) → (∀ k ∈ l, k < ns.length ∧ newAt kd ns k = true) → (l.map fun k => ns.getD k 0).Nodup := by
    intro l
    induction l with
    | nil => intro _ _; exact List.nodup_nil
    | cons a l ih =>
      intro hs hl
      rw [List.pairwise_cons] at hs
      rw [List.map_cons, List.nodup_cons]
      refine ⟨?_, ih hs.2 fun k hk => hl k (.tail _ hk)⟩
      intro hm
      obtain ⟨b, hb, e⟩ := List.mem_map.mp hm
      have hab := hs.1 b hb
      obtain ⟨hbl, hn⟩ := hl b (.tail _ hb)
      obtain ⟨hal, _⟩ := hl a (.head _)
      unfold newAt at hn
      rw [any_mem] at hn
      simp only [Bool.and_eq_true, Bool.not_eq_true', decide_eq_false_iff_not] at hn
      refine hn.1 ?_
      rw [e, List.getD_eq_getElem?_getD, List.getElem?_eq_getElem hal]
      have : (ns.take b)[a]? = some ns[a] := by rw [List.getElem?_take_of_lt hab, List.getElem?_eq_getElem hal]
      exact List.mem_of_getElem? this
  refine key _ ((List.pairwise_lt_range).filter _) ?_
  intro k hk
  obtain ⟨h1, h2⟩ := List.mem_filter.mp hk
  exact ⟨List.mem_range.mp h1, h2⟩
theorem fk_nodup {kd ns : List Int} (h : kd.Nodup) : (fk kd ns).Nodup := by
  unfold fk
  rw [List.nodup_append]
  exact ⟨h, firsts_nodup kd ns, fun a ha b hb e => (mem_firsts hb).2 (e ▸ ha)⟩
theorem fk_old {kd ns : List Int} {x : Int} (h : x ∈ kd) : x ∈ fk kd ns := List.mem_append_left _ h
theorem fk_new {kd ns : List Int} {x : Int} (h : x ∈ ns) : x ∈ fk kd ns := by
  unfold fk
  by_cases hk : x ∈ kd
  · exact List.mem_append_left _ hk
  · refine List.mem_append_right _ ?_
    have first : ∀ ns : List Int, x ∈ ns → ∃ k, k < ns.length ∧ ns.getD k 0 = x ∧ x ∉ ns.take k := by
      intro ns
      induction ns with
      | nil => intro h; cases h
      | cons a l ih =>
        intro h
        by_cases e : a = x
        · exact ⟨0, by simp, by simp [e], by simp⟩
        · rcases List.mem_cons.mp h with q | q
          · exact absurd q.symm e
          · obtain ⟨k, h1, h2, h3⟩ := ih q
            refine ⟨k + 1, by simpa using h1, by simpa using h2, ?_⟩
            rw [List.take_succ_cons, List.mem_cons]
            rintro (q | q)
            · exact e q.symm
            · exact h3 q
    obtain ⟨k, h1, h2, h3⟩ := first ns h
    unfold firsts
    refine List.mem_map.mpr ⟨k, List.mem_filter.mpr ⟨List.mem_range.mpr h1, ?_⟩, h2⟩
    unfold newAt
    rw [any_mem, any_mem, h2]
    simp [h3, hk]
theorem firsts_len (kd ns : List Int) : (firsts kd ns).length ≤ ns.length := by
  unfold firsts
  rw [List.length_map]
  exact Nat.le_trans (List.length_filter_le _ _) (by simp)
theorem fk_len (kd ns : List Int) : (fk kd ns).length ≤ kd.length + ns.length := by
  unfold fk; rw [List.length_append]; have := firsts_len kd ns; omega

end

section
open PySem PySem.W PySem.Calls PyProof.Rows
set_option maxHeartbeats 4000000
section
variable {M : Model} {A : Around} {E : Value → Shared → Prop} {s : Shared} {K : Frag} {env : Env} {pos p : Pos} {x C : Addr} {ox : Obj} {od : Option Obj} {first : List Value} {Q : Value → Shared → Prop} {e : Expr}
/-- a made object called with a star -/
theorem callWith_SI (_I : InstAt s.heap x ox C od) (hd : ox.data = .plain)
    (h : wpAny M A (eval e env) (fun v s₁ => StarOf M A E v (fun vs s₂ => InstAt s₂.heap x ox C od ∧ wpAny M A (call (.ref x) (first ++ vs)) Q E s₂) s₁) E s)
    (he : starEach [.Starred e p] env = [(true, eval e env)] := by rfl) :
    wpAny M A (callWith pos (.ref x) first (backTo pos (starEach [.Starred e p] env)) []) Q E s := by
  rw [he]
  show wpAny M A (callWith pos (.ref x) first [(true, (do let v ← eval e env; standAt pos; pure v))] []) Q E s
  unfold callWith
  refine wpAny_bind (wpAny_holding (wpAny_mono (ks_lone (Q := fun a s₂ => InstAt s₂.heap x ox C od ∧ wpAny M A (call (.ref x) (first ++ a.pos) a.kw) Q E s₂) h) (fun a s₁ h₁ => wpAny_bind (wpAny_standAt ?_)) fun _ _ y => y))
  have L := kco_keeper (M := M) h₁.1 hd
  simp only [List.any_cons, Bool.true_or, List.any_nil]
  refine wpAny_bind (L.here ?_)
  have tail : ∀ {t : Sem Value}, wpAny M A t Q E s₁ → wpAny M A (t >>= fun r => holding [r] point >>= fun _ => pure r) Q E s₁ :=
    fun ht => wpAny_bind (wpAny_mono ht (fun r s₂ hr => wpAny_bind (wpAny_holding (wpAny_point (wpAny_pure hr)))) fun _ _ y => y)
  exact tail (wpAny_operateT h₁.2)
end

end

open PySem PySem.W PySem.Calls PyProof.Rows
local macro_rules | `(tactic| walk_at "callWith ref") => `(tactic| (k_here; (with_reducible show wpAny _ _ (callWith _ (Value.ref _) _ (backTo _ (starEach [Expr.Starred _ _] _)) []) _ _ _); k_dflt (refine' callWith_SI ?k1 ?k2 ?_; (case k1 => k_inst); (case k2 => rfl); k_whole)))
local macro_rules | `(tactic| walk_at "And") => `(tactic| ((with_reducible show InstAt _ _ _ _ _ ∧ _); refine ⟨by k_inst, ?_⟩; try dsimp only [List.nil_append, List.cons_append]))

section
open PySem PySem.W PySem.Calls PyProof.Rows
set_option maxHeartbeats 4000000
/-- a code that ends with P, whenever it is called from here on -/
def Ans (M : Model) (A : Around) (s : Shared) (c : Code) (d u : Nat) (P : Value → Nat → Prop) : Prop :=
  ∀ A' s', A'.handled = none → A'.depth ≤ A.depth + d → A'.units ≤ A.units + u → AllBare s'.gens → Soft s.heap s'.heap → Tabs s'.heap → CodeT M A' s' c P
theorem Ans.weak {M : Model} {A A' : Around} {s s' : Shared} {c : Code} {d u d' u' : Nat} {P : Value → Nat → Prop} (H : Ans M A s c d u P) (hd : A'.depth + d' ≤ A.depth + d) (hu : A'.units + u' ≤ A.units + u) (sf : Soft s.heap s'.heap) : Ans M A' s' c d' u' P :=
  fun A2 s2 h1 h2 h3 h4 h5 h6 => H A2 s2 h1 (Nat.le_trans h2 hd) (Nat.le_trans h3 hu) h4 (sf.trans h5) h6
theorem Ans.use {M : Model} {A : Around} {s : Shared} {f : Value} {args : List Value} {d u : Nat} {P : Value → Nat → Prop} (H : Ans M A s (.call f ⟨args, []⟩) d u P) {A' : Around} {s' : Shared} {Q E : Value → Shared → Prop}
    (hA : A'.handled = none) (hd : A'.depth ≤ A.depth + d) (hu : A'.units ≤ A.units + u) (hG : AllBare s'.gens) (sf : Soft s.heap s'.heap) (t : Tabs s'.heap)
    (h : ∀ v s2, s2.os = s'.os → AllBare s2.gens → Soft s'.heap s2.heap → Tabs s2.heap → P v s2.toks → Q v s2) : wpAny M A' (call f args) Q E s' :=
  wpAny_call (H A' s' hA hd hu hG sf t Q E h)
theorem CodeS.use {M : Model} {A : Around} {s : Shared} {f : Value} {args : List Value} {P : Value → Heap → Prop} (H : CodeS M A s (.call f ⟨args, []⟩) P) {Q E : Value → Shared → Prop}
    (h : ∀ v s2, s2.os = s.os → AllBare s2.gens → Soft s.heap s2.heap → Tabs s2.heap → P v s2.heap → Q v s2) : wpAny M A (call f args) Q E s :=
  wpAny_call (H Q E h)
theorem gives_sim2 {prog : Program} {w : World} {A : Around} {p : Program} {loose : List Str} {mg mb : Str → Option Value} {bm : Addr} {ob : Obj} {s : Shared} {x dx C r1 r2 : Addr} {es : List DictEntry} {n : Nat} {P : Value → Nat → Prop}
    (B : Bas w p loose mg mb bm ob s.heap) (hG : AllBare s.gens) (hA : A.handled = none) (hd : A.depth + 40 < recursionLimit) (hu : A.units + 200 < cLine)
    (M : Meas s.heap x dx C es n) (H : Ans (model prog w) A s (.call (.ref x) ⟨[.ref r1, .ref r2], []⟩) 4 20 P) :
    CodeT (model prog w) A s (.call (.ref 226) ⟨[.ref x, .ref r1, .ref r2], []⟩) (Late P) := by
  intro Q E hQ
  have X := B.X
  have T := B.T
  walk_at "m_enterV"
  intro D L' h₁ tk F N hDL
  replace N : News s.heap L' h₁ [(D, tupO [.ref r1, .ref r2])] := N
  k_steps
  (with_reducible rename Fr _ _ _ _ => Fz)
  (with_reducible rename News _ _ _ _ => Nz)
  refine H.use (by walk_at "m_hand") (by k_room) (by walk_at "m_units") hG (.of_keep Fz.keep) (B.t.keep Fz.keep) ?_
  intro v s' hos' hG' sf' tb' hP
  obtain ⟨hB, sfB, tB, FB, hN, hdom⟩ := rebase B.t Fz sf' tb'
  have NB := hN _ Nz
  clear Fz Nz hN
  have XB := (B.soft sfB tB).X
  k_steps
  (with_reducible rename Fr _ _ _ _ => Fx)
  exact hQ _ _ hos' hG' (sfB.then_keep Fx.keep) (tB.keep Fx.keep) ⟨_, by (try dsimp only); omega, hP⟩
theorem gives_sim3 {prog : Program} {w : World} {A : Around} {p : Program} {loose : List Str} {mg mb : Str → Option Value} {bm : Addr} {ob : Obj} {s : Shared} {x dx C r1 r2 r3 : Addr} {es : List DictEntry} {n : Nat} {P : Value → Nat → Prop}
    (B : Bas w p loose mg mb bm ob s.heap) (hG : AllBare s.gens) (hA : A.handled = none) (hd : A.depth + 40 < recursionLimit) (hu : A.units + 200 < cLine)
    (M : Meas s.heap x dx C es n) (H : Ans (model prog w) A s (.call (.ref x) ⟨[.ref r1, .ref r2, .ref r3], []⟩) 4 20 P) :
    CodeT (model prog w) A s (.call (.ref 226) ⟨[.ref x, .ref r1, .ref r2, .ref r3], []⟩) (Late P) := by
  intro Q E hQ
  have X := B.X
  have T := B.T
  walk_at "m_enterV"
  intro D L' h₁ tk F N hDL
  replace N : News s.heap L' h₁ [(D, tupO [.ref r1, .ref r2, .ref r3])] := N
  k_steps
  (with_reducible rename Fr _ _ _ _ => Fz)
  (with_reducible rename News _ _ _ _ => Nz)
  refine H.use (by walk_at "m_hand") (by k_room) (by walk_at "m_units") hG (.of_keep Fz.keep) (B.t.keep Fz.keep) ?_
  intro v s' hos' hG' sf' tb' hP
  obtain ⟨hB, sfB, tB, FB, hN, hdom⟩ := rebase B.t Fz sf' tb'
  have NB := hN _ Nz
  clear Fz Nz hN
  have XB := (B.soft sfB tB).X
  k_steps
  (with_reducible rename Fr _ _ _ _ => Fx)
  exact hQ _ _ hos' hG' (sfB.then_keep Fx.keep) (tB.keep Fx.keep) ⟨_, by (try dsimp only); omega, hP⟩

end

section
open PySem PySem.W PySem.Calls PyProof.Rows
set_option maxHeartbeats 4000000
local macro_rules | `(tactic| k_is) => `(tactic| with_reducible assumption)
local macro_rules | `(tactic| k_get) => `(tactic| with_reducible assumption)
local macro_rules | `(tactic| walk_at "call ref cons nil") => `(tactic| (k_here; (with_reducible show wpAny _ _ (call (Value.ref _) _ _) _ _ _); refine Halt.out ?_))
local macro_rules | `(tactic| walk_at "call builtin:all cons nil") => `(tactic| (k_here; (with_reducible show wpAny _ _ (call (Value.builtin "all") [Value.ref _] _) _ _ _); refine Halt.out ?_))
local macro_rules | `(tactic| walk_at "call builtin:sum cons nil") => `(tactic| (k_here; (with_reducible show wpAny _ _ (call (Value.builtin "sum") [Value.ref _] _) _ _ _); refine Halt.out ?_))
local macro_rules | `(tactic| walk_at "eval GeneratorExp Call cons") => `(tactic| (k_here; (with_reducible show wpAny _ _ (eval (Expr.GeneratorExp _ _ _ _) _) _ _ _); refine Halt.out ?_))
local macro_rules | `(tactic| walk_at "binaryOp Div int int") => `(tactic| (k_here; (with_reducible show wpAny _ _ (binaryOp Operator.Div _ _) _ _ _); refine Halt.out ?_))
local macro_rules | `(tactic| walk_at "binaryOp Div float int") => `(tactic| (k_here; (with_reducible show wpAny _ _ (binaryOp Operator.Div _ _) _ _ _); refine Halt.out ?_))
local macro_rules | `(tactic| walk_at "binaryOp Mult float int") => `(tactic| (k_here; (with_reducible show wpAny _ _ (binaryOp Operator.Mult (Value.float _ _) _) _ _ _); refine Halt.out ?_))
local macro_rules | `(tactic| walk_at "call builtin:min cons nil") => `(tactic| (k_here; (with_reducible show wpAny _ _ (call (Value.builtin "min") [Value.ref _] _) _ _ _); refine Halt.out ?_))
local macro_rules | `(tactic| walk_at "call ref nil") => `(tactic| (k_here; (with_reducible show wpAny _ _ (call (Value.ref _) _ _) _ _ _); refine Halt.out ?_))
local macro_rules | `(tactic| walk_at "call builtin:max cons nil") => `(tactic| (k_here; (with_reducible show wpAny _ _ (call (Value.builtin "max") [Value.ref _] _) _ _ _); refine Halt.out ?_))
local macro_rules | `(tactic| walk_at "pyIter ref") => `(tactic| (k_here; (with_reducible show wpAny _ _ (pyIter (Value.ref _)) _ _ _); refine Halt.out ?_))
theorem size2 {a b : Value} (h : ((#[a, b] : Array Value).size : Int) ≠ 2) : False := h rfl
theorem size3 {a b c : Value} (h : ((#[a, b, c] : Array Value).size : Int) = 2) : False := by
  have : ((#[a, b, c] : Array Value).size : Int) = 3 := rfl
  omega
theorem u3_item {prog : Program} {w : World} {A : Around} {E : Value → Shared → Prop} {s : Shared} {value slice : PySem.Expr} {l : Addr} {vs : List Value} {k : Int} {u : Tok} {v : Value} {Q : Value → Shared → Prop}
    (hl : s.heap.IsList l vs.toArray) (h0 : 0 ≤ k) (hhi : k < 2 ^ 63) (hx : vs[k.toNat]? = some v) (h : Q v s)
    (hs : subscripted slice false (.ref l) (.int k u) = operate [.ref l, .int k u] (getItem (.ref l) (.int k u))) :
    wpAny (model prog w) A (subscriptTail value slice (.ref l) (.int k u)) Q E s :=
  tail_any hl.typeIs slot_list_getitem.lookup (wpAny_getItem_list hl h0 hhi (by simpa using hx) h) hs
local macro_rules | `(tactic| walk_at "subscriptTail Name Constant ref int") => `(tactic| (k_here; k_dflt (refine' u3_item ?k1 ?k2 ?k3 ?k4 ?_ ?k6; (case k1 => exact Fr.lst (by assumption) (by assumption)); (case k2 => decide); (case k3 => decide); (case k4 => exact rfl); (case k6 => with_unfolding_all rfl))))
local macro_rules | `(tactic| walk_at "call builtin:len cons nil") => `(tactic| (k_here; (with_reducible show wpAny _ _ (call (Value.builtin "len") [Value.ref _]) _ _ _); k_dflt (refine' kun_lenL ?k1 ?k2 ?k3 ?_; (case k1 => exact Fr.lst (by assumption) (by assumption)); (case k2 => kun_count); (case k3 => decide); k_whole)))
theorem gives_told2 {prog : Program} {w : World} {A : Around} {p : Program} {loose : List Str} {mg mb : Str → Option Value} {bm : Addr} {ob : Obj} {s : Shared} {x dx C r1 r2 rs : Addr} {es : List DictEntry} {n : Nat} {P : Value → Nat → Prop} {b : Bool}
    (B : Bas w p loose mg mb bm ob s.heap) (hG : AllBare s.gens) (hA : A.handled = none) (hd : A.depth + 50 < recursionLimit) (hu : A.units + 300 < cLine)
    (M : Meas s.heap x dx C es n) (K : MK w b C es) (R : s.heap.IsList rs (List.toArray [.ref r1, .ref r2])) (H : Ans (model prog w) A s (.call (.ref x) ⟨[.ref r1, .ref r2], []⟩) 8 60 P) :
    CodeT (model prog w) A s (.call (.ref 377) ⟨[.ref x, .ref rs], []⟩) (Late (Late P)) := by
  intro Q E hQ
  have X := B.X
  have T := B.T
  have hk : ∀ b o, s.heap.get? b = some o → s.heap.get? b = some o := fun _ _ e => e
  have hz : s.heap.objs.size ≤ s.heap.objs.size := Nat.le_refl _
  have hn : ∀ q ∈ ([] : List (Addr × Obj)), s.heap.get? q.1 = some q.2 ∧ s.heap.get? q.1 = none := fun _ h => nomatch h
  walk_at "m_enter"
  intro L' h₁ F N hk₁
  obtain ⟨q1, q2, q3⟩ := K.sim
  (
    k_steps
    all_goals (try (with_reducible show Halt (wpAny _ _ _ _ _ _); refine Halt.mk ?_))
    all_goals first | exact (size2 (by assumption)).elim | skip
    (with_reducible rename Fr _ _ _ _ => Fz)
    (with_reducible rename News _ _ _ _ => Nz)
    refine CodeT.use (gives_sim2 (B.keep Fz.keep) ?hg (by walk_at "m_hand") (by k_room) (by walk_at "m_units") (M.keep Fz.keep) (H.weak (by k_room) (by walk_at "m_units") (.of_keep Fz.keep))) ?_
    case hg => exact hG
    intro v s' hos' hG' sf' tb' hP
    obtain ⟨hB, sfB, tB, FB, hN, hdom⟩ := rebase B.t Fz sf' tb'
    have NB := hN _ Nz
    clear Fz Nz hN
    have XB := (B.soft sfB tB).X
    k_steps
    all_goals (try (with_reducible show Halt (wpAny _ _ _ _ _ _); refine Halt.mk ?_))
    (with_reducible rename Fr _ _ _ _ => Fx)
    exact hQ _ _ hos' hG' (sfB.then_keep Fx.keep) (tB.keep Fx.keep) ⟨_, by (try dsimp only); omega, hP⟩)
theorem gives_told3 {prog : Program} {w : World} {A : Around} {p : Program} {loose : List Str} {mg mb : Str → Option Value} {bm : Addr} {ob : Obj} {s : Shared} {x dx C r1 r2 r3 rs : Addr} {es : List DictEntry} {n : Nat} {P : Value → Nat → Prop} {b : Bool}
    (B : Bas w p loose mg mb bm ob s.heap) (hG : AllBare s.gens) (hA : A.handled = none) (hd : A.depth + 50 < recursionLimit) (hu : A.units + 300 < cLine)
    (M : Meas s.heap x dx C es n) (K : MK w b C es) (R : s.heap.IsList rs (List.toArray [.ref r1, .ref r2, .ref r3])) (H : Ans (model prog w) A s (.call (.ref x) ⟨[.ref r1, .ref r2, .ref r3], []⟩) 8 60 P) :
    CodeT (model prog w) A s (.call (.ref 377) ⟨[.ref x, .ref rs], []⟩) (Late (Late P)) := by
  intro Q E hQ
  have X := B.X
  have T := B.T
  have hk : ∀ b o, s.heap.get? b = some o → s.heap.get? b = some o := fun _ _ e => e
  have hz : s.heap.objs.size ≤ s.heap.objs.size := Nat.le_refl _
  have hn : ∀ q ∈ ([] : List (Addr × Obj)), s.heap.get? q.1 = some q.2 ∧ s.heap.get? q.1 = none := fun _ h => nomatch h
  walk_at "m_enter"
  intro L' h₁ F N hk₁
  obtain ⟨q1, q2, q3⟩ := K.sim
  (
    k_steps
    all_goals (try (with_reducible show Halt (wpAny _ _ _ _ _ _); refine Halt.mk ?_))
    all_goals first | exact (size3 (by assumption)).elim | skip
    (with_reducible rename Fr _ _ _ _ => Fz)
    (with_reducible rename News _ _ _ _ => Nz)
    refine CodeT.use (gives_sim3 (B.keep Fz.keep) ?hg (by walk_at "m_hand") (by k_room) (by walk_at "m_units") (M.keep Fz.keep) (H.weak (by k_room) (by walk_at "m_units") (.of_keep Fz.keep))) ?_
    case hg => exact hG
    intro v s' hos' hG' sf' tb' hP
    obtain ⟨hB, sfB, tB, FB, hN, hdom⟩ := rebase B.t Fz sf' tb'
    have NB := hN _ Nz
    clear Fz Nz hN
    have XB := (B.soft sfB tB).X
    k_steps
    all_goals (try (with_reducible show Halt (wpAny _ _ _ _ _ _); refine Halt.mk ?_))
    (with_reducible rename Fr _ _ _ _ => Fx)
    exact hQ _ _ hos' hG' (sfB.then_keep Fx.keep) (tB.keep Fx.keep) ⟨_, by (try dsimp only); omega, hP⟩)

end

section
open PySem PySem.W PySem.Calls PyProof.Rows
set_option maxHeartbeats 4000000
theorem kc_call (w : World) : findIn (KF w) (.ref 270) "__call__" = some (some (.ref 267)) ∧ findIn (KF w) (.ref 304) "__call__" = some (some (.ref 301)) ∧ findIn (KF w) (.ref 336) "__call__" = some (some (.ref 333)) ∧ findIn (KF w) (.ref 368) "__call__" = some (some (.ref 365)) := ⟨by kernel_rfl, by kernel_rfl, by kernel_rfl, by kernel_rfl⟩
theorem kc_fn (w : World) : (isFn (KF w) (.ref 267) = true ∧ fnIn (KF w) 267 = true) ∧ (isFn (KF w) (.ref 301) = true ∧ fnIn (KF w) 301 = true) ∧ (isFn (KF w) (.ref 333) = true ∧ fnIn (KF w) 333 = true) ∧ (isFn (KF w) (.ref 365) = true ∧ fnIn (KF w) 365 = true) := ⟨⟨by kernel_rfl, by kernel_rfl⟩, ⟨by kernel_rfl, by kernel_rfl⟩, ⟨by kernel_rfl, by kernel_rfl⟩, ⟨by kernel_rfl, by kernel_rfl⟩⟩
theorem soft_list {h h' : Heap} {l : Addr} {vs : Array Value} (H : h.IsList l vs) (s : Soft h h') (t : Tabs h) : h'.IsList l vs := by
  obtain ⟨o, e, hc, r⟩ := H
  exact ⟨o, s.cls t e (by rw [hc]; exact fun q => by cases q), hc, r⟩
theorem ans_jac2 {prog : Program} {w : World} {A : Around} {p : Program} {loose : List Str} {mg mb : Str → Option Value} {bm : Addr} {ob : Obj} {s : Shared} {x dx r1 r2 : Addr} {n d u : Nat} {b : Bool} {n1 n2 : List Int} {tq t1 t2 t3 : Tok}
    (B : Bas w p loose mg mb bm ob s.heap) (hd : A.depth + d + 30 < recursionLimit) (hu : A.units + u + 150 < cLine)
    (M : Meas s.heap x dx 270 (attr3 w b tq t1 t2 t3) n) (R1 : RowAt s.heap r1 n1) (R2 : RowAt s.heap r2 n2) (hz1 : n1.length ≤ 100) (hz2 : n2.length ≤ 100) :
    Ans (model prog w) A s (.call (.ref x) ⟨[.ref r1, .ref r2], []⟩) d u (fun v n => ∃ u, v = jv2 b n1 n2 u ∧ RecT v n) := by
  intro A' s' hA' hd' hu' hG' sf tb Q E hQ
  have a1 := size_nonneg (b := b) (n1 := n1)
  have b1 := size_le (b := b) (n1 := n1)
  have c1 := size_pos (b := b) (n1 := n1)
  have a2 := size_nonneg (b := b) (n1 := n2)
  have b2 := size_le (b := b) (n1 := n2)
  have c2 := size_pos (b := b) (n1 := n2)
  have d0 := and2_nonneg (b := b) (n1 := n1) (n2 := n2)
  have d1 := and2_le1 (b := b) (n1 := n1) (n2 := n2)
  have d2 := and2_le2 (b := b) (n1 := n1) (n2 := n2)
  have o1 := or2_ge (b := b) (n1 := n1) (n2 := n2)
  have B' := B.soft sf tb
  have M' := sf.meas B.t M
  refine kco_code B'.X M'.inst rfl (kc_call w).1 (kc_fn w).1.1 (kc_fn w).1.2 ?_
  dsimp only
  refine gives_jac2 B' ?hg hA' (by omega) (by omega) M' (R1.soft sf B.t) (R2.soft sf B.t) hz1 hz2 (fun hm => by have := c1 hm; omega) (abs_small d0 (by omega)) Q E fun v s2 h1 h2 h3 h4 h5 => hQ v s2 h1 h2 h3 h4 h5
  case hg => exact hG'
theorem ans_jac3 {prog : Program} {w : World} {A : Around} {p : Program} {loose : List Str} {mg mb : Str → Option Value} {bm : Addr} {ob : Obj} {s : Shared} {x dx r1 r2 r3 : Addr} {n d u : Nat} {b : Bool} {n1 n2 n3 : List Int} {tq t1 t2 t3 : Tok}
    (B : Bas w p loose mg mb bm ob s.heap) (hd : A.depth + d + 30 < recursionLimit) (hu : A.units + u + 150 < cLine)
    (M : Meas s.heap x dx 270 (attr3 w b tq t1 t2 t3) n) (R1 : RowAt s.heap r1 n1) (R2 : RowAt s.heap r2 n2) (R3 : RowAt s.heap r3 n3) (hz1 : n1.length ≤ 100) (hz2 : n2.length ≤ 100) (hz3 : n3.length ≤ 100) :
    Ans (model prog w) A s (.call (.ref x) ⟨[.ref r1, .ref r2, .ref r3], []⟩) d u (fun v n => ∃ u, v = jv3 b n1 n2 n3 u ∧ RecT v n) := by
  intro A' s' hA' hd' hu' hG' sf tb Q E hQ
  have a1 := size_nonneg (b := b) (n1 := n1)
  have b1 := size_le (b := b) (n1 := n1)
  have c1 := size_pos (b := b) (n1 := n1)
  have a2 := size_nonneg (b := b) (n1 := n2)
  have b2 := size_le (b := b) (n1 := n2)
  have c2 := size_pos (b := b) (n1 := n2)
  have a3 := size_nonneg (b := b) (n1 := n3)
  have b3 := size_le (b := b) (n1 := n3)
  have c3 := size_pos (b := b) (n1 := n3)
  have d0 := and3_nonneg (b := b) (n1 := n1) (n2 := n2) (n3 := n3)
  have d1 := and3_le1 (b := b) (n1 := n1) (n2 := n2) (n3 := n3)
  have d2 := and3_le2 (b := b) (n1 := n1) (n2 := n2) (n3 := n3)
  have d3 := and3_le3 (b := b) (n1 := n1) (n2 := n2) (n3 := n3)
  have o1 := or3_ge (b := b) (n1 := n1) (n2 := n2) (n3 := n3)
  have B' := B.soft sf tb
  have M' := sf.meas B.t M
  refine kco_code B'.X M'.inst rfl (kc_call w).1 (kc_fn w).1.1 (kc_fn w).1.2 ?_
  dsimp only
  refine gives_jac3 B' ?hg hA' (by omega) (by omega) M' (R1.soft sf B.t) (R2.soft sf B.t) (R3.soft sf B.t) hz1 hz2 hz3 (fun hm => by have := c1 hm; omega) (abs_small d0 (by omega)) Q E fun v s2 h1 h2 h3 h4 h5 => hQ v s2 h1 h2 h3 h4 h5
  case hg => exact hG'
theorem ans_ov2 {prog : Program} {w : World} {A : Around} {p : Program} {loose : List Str} {mg mb : Str → Option Value} {bm : Addr} {ob : Obj} {s : Shared} {x dx r1 r2 : Addr} {n d u : Nat} {b : Bool} {n1 n2 : List Int} {tq t1 t2 t3 : Tok}
    (B : Bas w p loose mg mb bm ob s.heap) (hd : A.depth + d + 30 < recursionLimit) (hu : A.units + u + 150 < cLine)
    (M : Meas s.heap x dx 368 (attr3 w b tq t1 t2 t3) n) (R1 : RowAt s.heap r1 n1) (R2 : RowAt s.heap r2 n2) (hz1 : n1.length ≤ 100) (hz2 : n2.length ≤ 100) :
    Ans (model prog w) A s (.call (.ref x) ⟨[.ref r1, .ref r2], []⟩) d u (fun v n => ∃ u, v = ov2 b n1 n2 u ∧ RecT v n) := by
  intro A' s' hA' hd' hu' hG' sf tb Q E hQ
  have a1 := size_nonneg (b := b) (n1 := n1)
  have b1 := size_le (b := b) (n1 := n1)
  have c1 := size_pos (b := b) (n1 := n1)
  have a2 := size_nonneg (b := b) (n1 := n2)
  have b2 := size_le (b := b) (n1 := n2)
  have c2 := size_pos (b := b) (n1 := n2)
  have d0 := and2_nonneg (b := b) (n1 := n1) (n2 := n2)
  have d1 := and2_le1 (b := b) (n1 := n1) (n2 := n2)
  have d2 := and2_le2 (b := b) (n1 := n1) (n2 := n2)
  have o1 := or2_ge (b := b) (n1 := n1) (n2 := n2)
  have B' := B.soft sf tb
  have M' := sf.meas B.t M
  refine kco_code B'.X M'.inst rfl (kc_call w).2.2.2 (kc_fn w).2.2.2.1 (kc_fn w).2.2.2.2 ?_
  dsimp only
  refine gives_ov2 B' ?hg hA' (by omega) (by omega) M' (R1.soft sf B.t) (R2.soft sf B.t) hz1 hz2 (fun hm => by simp only [not_or] at hm; have := c1 hm.1; have := c2 hm.2; omega) (abs_small d0 (by omega)) Q E fun v s2 h1 h2 h3 h4 h5 => hQ v s2 h1 h2 h3 h4 h5
  case hg => exact hG'
theorem ans_ov3 {prog : Program} {w : World} {A : Around} {p : Program} {loose : List Str} {mg mb : Str → Option Value} {bm : Addr} {ob : Obj} {s : Shared} {x dx r1 r2 r3 : Addr} {n d u : Nat} {b : Bool} {n1 n2 n3 : List Int} {tq t1 t2 t3 : Tok}
    (B : Bas w p loose mg mb bm ob s.heap) (hd : A.depth + d + 30 < recursionLimit) (hu : A.units + u + 150 < cLine)
    (M : Meas s.heap x dx 368 (attr3 w b tq t1 t2 t3) n) (R1 : RowAt s.heap r1 n1) (R2 : RowAt s.heap r2 n2) (R3 : RowAt s.heap r3 n3) (hz1 : n1.length ≤ 100) (hz2 : n2.length ≤ 100) (hz3 : n3.length ≤ 100) :
    Ans (model prog w) A s (.call (.ref x) ⟨[.ref r1, .ref r2, .ref r3], []⟩) d u (fun v n => ∃ u, v = ov3 b n1 n2 n3 u ∧ RecT v n) := by
  intro A' s' hA' hd' hu' hG' sf tb Q E hQ
  have a1 := size_nonneg (b := b) (n1 := n1)
  have b1 := size_le (b := b) (n1 := n1)
  have c1 := size_pos (b := b) (n1 := n1)
  have a2 := size_nonneg (b := b) (n1 := n2)
  have b2 := size_le (b := b) (n1 := n2)
  have c2 := size_pos (b := b) (n1 := n2)
  have a3 := size_nonneg (b := b) (n1 := n3)
  have b3 := size_le (b := b) (n1 := n3)
  have c3 := size_pos (b := b) (n1 := n3)
  have d0 := and3_nonneg (b := b) (n1 := n1) (n2 := n2) (n3 := n3)
  have d1 := and3_le1 (b := b) (n1 := n1) (n2 := n2) (n3 := n3)
  have d2 := and3_le2 (b := b) (n1 := n1) (n2 := n2) (n3 := n3)
  have d3 := and3_le3 (b := b) (n1 := n1) (n2 := n2) (n3 := n3)
  have o1 := or3_ge (b := b) (n1 := n1) (n2 := n2) (n3 := n3)
  have B' := B.soft sf tb
  have M' := sf.meas B.t M
  refine kco_code B'.X M'.inst rfl (kc_call w).2.2.2 (kc_fn w).2.2.2.1 (kc_fn w).2.2.2.2 ?_
  dsimp only
  refine gives_ov3 B' ?hg hA' (by omega) (by omega) M' (R1.soft sf B.t) (R2.soft sf B.t) (R3.soft sf B.t) hz1 hz2 hz3 (fun hm => by simp only [not_or] at hm; have := c1 hm.1; have := c2 hm.2.1; have := c3 hm.2.2; omega) (abs_small d0 (by omega)) Q E fun v s2 h1 h2 h3 h4 h5 => hQ v s2 h1 h2 h3 h4 h5
  case hg => exact hG'
theorem ans_tv2 {prog : Program} {w : World} {A : Around} {p : Program} {loose : List Str} {mg mb : Str → Option Value} {bm : Addr} {ob : Obj} {s : Shared} {x dx r1 r2 : Addr} {n d u : Nat} {b : Bool} {n1 n2 : List Int} {tq t1 t2 t3 t4 t5 : Tok} {ks : Addr} {z1 z2 : Int} {v1 v2 : Tok}
    (B : Bas w p loose mg mb bm ob s.heap) (hd : A.depth + d + 30 < recursionLimit) (hu : A.units + u + 150 < cLine)
    (M : Meas s.heap x dx 336 (attr5 w b ks tq t1 t2 t3 t4 t5) n) (R1 : RowAt s.heap r1 n1) (R2 : RowAt s.heap r2 n2) (hz1 : n1.length ≤ 100) (hz2 : n2.length ≤ 100) (HK : s.heap.IsList ks (List.toArray [.int z1 v1, .int z2 v2])) (hw1 : 1 ≤ z1 ∧ z1 ≤ 5) (hw2 : 1 ≤ z2 ∧ z2 ≤ 5) :
    Ans (model prog w) A s (.call (.ref x) ⟨[.ref r1, .ref r2], []⟩) d u (fun v n => ∃ u, v = tv2 b n1 n2 z1 z2 u ∧ RecT v n) := by
  intro A' s' hA' hd' hu' hG' sf tb Q E hQ
  have a1 := size_nonneg (b := b) (n1 := n1)
  have b1 := size_le (b := b) (n1 := n1)
  have c1 := size_pos (b := b) (n1 := n1)
  have a2 := size_nonneg (b := b) (n1 := n2)
  have b2 := size_le (b := b) (n1 := n2)
  have c2 := size_pos (b := b) (n1 := n2)
  have d0 := and2_nonneg (b := b) (n1 := n1) (n2 := n2)
  have d1 := and2_le1 (b := b) (n1 := n1) (n2 := n2)
  have d2 := and2_le2 (b := b) (n1 := n1) (n2 := n2)
  have o1 := or2_ge (b := b) (n1 := n1) (n2 := n2)
  have B' := B.soft sf tb
  have M' := sf.meas B.t M
  refine kco_code B'.X M'.inst rfl (kc_call w).2.2.1 (kc_fn w).2.2.1.1 (kc_fn w).2.2.1.2 ?_
  dsimp only
  refine gives_tv2 B' ?hg hA' (by omega) (by omega) M' (R1.soft sf B.t) (R2.soft sf B.t) hz1 hz2 (soft_list HK sf B.t) (mul_small (by omega) hw1.2) (mul_small (by omega) hw2.2) (fun hm => by simp only [not_or] at hm; have := c1 hm.1; have := Int.mul_nonneg (show 0 ≤ z1 - 1 by omega) (show 0 ≤ cc b (cnt n1) - cc b (cand (cnt n1) (cnt n2)) by omega); have := Int.mul_nonneg (show 0 ≤ z2 - 1 by omega) (show 0 ≤ cc b (cnt n2) - cc b (cand (cnt n1) (cnt n2)) by omega); simp only [Int.sub_mul, Int.one_mul] at *; omega) (abs_small d0 (by omega)) Q E fun v s2 h1 h2 h3 h4 h5 => hQ v s2 h1 h2 h3 h4 h5
  case hg => exact hG'
theorem ans_tv3 {prog : Program} {w : World} {A : Around} {p : Program} {loose : List Str} {mg mb : Str → Option Value} {bm : Addr} {ob : Obj} {s : Shared} {x dx r1 r2 r3 : Addr} {n d u : Nat} {b : Bool} {n1 n2 n3 : List Int} {tq t1 t2 t3 t4 t5 : Tok} {ks : Addr} {z1 z2 z3 : Int} {v1 v2 v3 : Tok}
    (B : Bas w p loose mg mb bm ob s.heap) (hd : A.depth + d + 30 < recursionLimit) (hu : A.units + u + 150 < cLine)
    (M : Meas s.heap x dx 336 (attr5 w b ks tq t1 t2 t3 t4 t5) n) (R1 : RowAt s.heap r1 n1) (R2 : RowAt s.heap r2 n2) (R3 : RowAt s.heap r3 n3) (hz1 : n1.length ≤ 100) (hz2 : n2.length ≤ 100) (hz3 : n3.length ≤ 100) (HK : s.heap.IsList ks (List.toArray [.int z1 v1, .int z2 v2, .int z3 v3])) (hw1 : 1 ≤ z1 ∧ z1 ≤ 5) (hw2 : 1 ≤ z2 ∧ z2 ≤ 5) (hw3 : 1 ≤ z3 ∧ z3 ≤ 5) :
    Ans (model prog w) A s (.call (.ref x) ⟨[.ref r1, .ref r2, .ref r3], []⟩) d u (fun v n => ∃ u, v = tv3 b n1 n2 n3 z1 z2 z3 u ∧ RecT v n) := by
  intro A' s' hA' hd' hu' hG' sf tb Q E hQ
  have a1 := size_nonneg (b := b) (n1 := n1)
  have b1 := size_le (b := b) (n1 := n1)
  have c1 := size_pos (b := b) (n1 := n1)
  have a2 := size_nonneg (b := b) (n1 := n2)
  have b2 := size_le (b := b) (n1 := n2)
  have c2 := size_pos (b := b) (n1 := n2)
  have a3 := size_nonneg (b := b) (n1 := n3)
  have b3 := size_le (b := b) (n1 := n3)
  have c3 := size_pos (b := b) (n1 := n3)
  have d0 := and3_nonneg (b := b) (n1 := n1) (n2 := n2) (n3 := n3)
  have d1 := and3_le1 (b := b) (n1 := n1) (n2 := n2) (n3 := n3)
  have d2 := and3_le2 (b := b) (n1 := n1) (n2 := n2) (n3 := n3)
  have d3 := and3_le3 (b := b) (n1 := n1) (n2 := n2) (n3 := n3)
  have o1 := or3_ge (b := b) (n1 := n1) (n2 := n2) (n3 := n3)
  have B' := B.soft sf tb
  have M' := sf.meas B.t M
  refine kco_code B'.X M'.inst rfl (kc_call w).2.2.1 (kc_fn w).2.2.1.1 (kc_fn w).2.2.1.2 ?_
  dsimp only
  refine gives_tv3 B' ?hg hA' (by omega) (by omega) M' (R1.soft sf B.t) (R2.soft sf B.t) (R3.soft sf B.t) hz1 hz2 hz3 (soft_list HK sf B.t) (mul_small (by omega) hw1.2) (mul_small (by omega) hw2.2) (mul_small (by omega) hw3.2) (fun hm => by simp only [not_or] at hm; have := c1 hm.1; have := Int.mul_nonneg (show 0 ≤ z1 - 1 by omega) (show 0 ≤ cc b (cnt n1) - cc b (cand (cand (cnt n1) (cnt n2)) (cnt n3)) by omega); have := Int.mul_nonneg (show 0 ≤ z2 - 1 by omega) (show 0 ≤ cc b (cnt n2) - cc b (cand (cand (cnt n1) (cnt n2)) (cnt n3)) by omega); have := Int.mul_nonneg (show 0 ≤ z3 - 1 by omega) (show 0 ≤ cc b (cnt n3) - cc b (cand (cand (cnt n1) (cnt n2)) (cnt n3)) by omega); simp only [Int.sub_mul, Int.one_mul] at *; omega) (abs_small d0 (by omega)) Q E fun v s2 h1 h2 h3 h4 h5 => hQ v s2 h1 h2 h3 h4 h5
  case hg => exact hG'
theorem ans_sor2 {prog : Program} {w : World} {A : Around} {p : Program} {loose : List Str} {mg mb : Str → Option Value} {bm : Addr} {ob : Obj} {s : Shared} {x dx r1 r2 : Addr} {n d u : Nat} {b : Bool} {n1 n2 : List Int} {tq t1 t2 t3 : Tok}
    (B : Bas w p loose mg mb bm ob s.heap) (hd : A.depth + d + 30 < recursionLimit) (hu : A.units + u + 150 < cLine)
    (M : Meas s.heap x dx 304 (attr3 w b tq t1 t2 t3) n) (R1 : RowAt s.heap r1 n1) (R2 : RowAt s.heap r2 n2) (hz1 : n1.length ≤ 100) (hz2 : n2.length ≤ 100) :
    Ans (model prog w) A s (.call (.ref x) ⟨[.ref r1, .ref r2], []⟩) d u (fun v n => ∃ u, v = sv2 b n1 n2 u ∧ RecT v n) := by
  intro A' s' hA' hd' hu' hG' sf tb Q E hQ
  have a1 := size_nonneg (b := b) (n1 := n1)
  have b1 := size_le (b := b) (n1 := n1)
  have c1 := size_pos (b := b) (n1 := n1)
  have a2 := size_nonneg (b := b) (n1 := n2)
  have b2 := size_le (b := b) (n1 := n2)
  have c2 := size_pos (b := b) (n1 := n2)
  have d0 := and2_nonneg (b := b) (n1 := n1) (n2 := n2)
  have d1 := and2_le1 (b := b) (n1 := n1) (n2 := n2)
  have d2 := and2_le2 (b := b) (n1 := n1) (n2 := n2)
  have o1 := or2_ge (b := b) (n1 := n1) (n2 := n2)
  have B' := B.soft sf tb
  have M' := sf.meas B.t M
  refine kco_code B'.X M'.inst rfl (kc_call w).2.1 (kc_fn w).2.1.1 (kc_fn w).2.1.2 ?_
  dsimp only
  refine gives_sor2 B' ?hg hA' (by omega) (by omega) M' (R1.soft sf B.t) (R2.soft sf B.t) hz1 hz2 (sq_small a1 (by omega) a2 (by omega)) (over_small d0 (by omega)) (over_small (by omega) (by omega)) (fun hm => by simp only [not_or] at hm; have := c1 hm.1; omega) Q E fun v s2 h1 h2 h3 h4 h5 => hQ v s2 h1 h2 h3 h4 h5
  case hg => exact hG'

end

section
open PySem PySem.W PySem.Calls PyProof.Rows
set_option maxHeartbeats 4000000
/-- Jaccard's distance of two rows -/
def dv2 (b : Bool) (n1 n2 : List Int) (u : Tok) : Value := if n1 = n2 then .int 0 u else if n1 = [] ∨ n2 = [] then .int 1 u else .float (Float64.sub (Float64.ofInt 1) (quo (cc b (cand (cnt n1) (cnt n2))) (cc b (cor (cnt n1) (cnt n2))))) u
theorem gives_dist2 {prog : Program} {w : World} {A : Around} {p : Program} {loose : List Str} {mg mb : Str → Option Value} {bm : Addr} {ob : Obj} {s : Shared} {x dx r1 r2 : Addr} {n : Nat} {b : Bool} {n1 n2 : List Int} {tq t1 t2 t3 : Tok}
    (B : Bas w p loose mg mb bm ob s.heap) (hG : AllBare s.gens) (hA : A.handled = none) (hd : A.depth + 60 < recursionLimit) (hu : A.units + 400 < cLine)
    (M : Meas s.heap x dx 270 (attr3 w b tq t1 t2 t3) n) (R1 : RowAt s.heap r1 n1) (R2 : RowAt s.heap r2 n2) (hz1 : n1.length ≤ 100) (hz2 : n2.length ≤ 100) :
    CodeS (model prog w) A s (.call (.ref 219) ⟨[.ref x, .ref r1, .ref r2], []⟩) (fun v _ => ∃ u, v = dv2 b n1 n2 u) := by
  intro Q E hQ
  have X := B.X
  have T := B.T
  walk_at "m_enterV"
  intro D L' h₁ tk F N hDL
  replace N : News s.heap L' h₁ [(D, tupO [.ref r1, .ref r2])] := N
  k_steps
  (with_reducible rename Fr _ _ _ _ => Fy)
  (with_reducible rename News _ _ _ _ => Ny)
  refine call_bound Ny (.head _) (gives_max2 (by decide) (X.keeps Fy.keep) (T.keeps Fy.keep) (by k_room) _ _ ?_)
  intro u2 h2 tk2 k2
  have F3 := fr_grow Fy k2
  have N3 := news_grow Ny k2
  clear Fy Ny
  k_steps
  (with_reducible rename Fr _ _ _ _ => Fz)
  (with_reducible rename News _ _ _ _ => Nz)
  refine call_bound Nz (.head _) (gives_sim2 (B.keep Fz.keep) ?hg (by walk_at "m_hand") (by k_room) (by walk_at "m_units") (M.keep Fz.keep) (ans_jac2 (n1 := n1) (n2 := n2) (B.keep Fz.keep) (by k_room) (by walk_at "m_units") (M.keep Fz.keep) (R1.keep Fz.keep) (R2.keep Fz.keep) hz1 hz2) _ _ ?_)
  case hg => exact hG
  rintro v s' hos' hG' sf' tb' ⟨_, _, u, rfl, _⟩
  obtain ⟨hB, sfB, tB, FB, hN, hdom⟩ := rebase B.t Fz sf' tb'
  have NB := hN _ Nz
  clear Fz Nz hN X T
  have XB := (B.soft sfB tB).X
  by_cases hq : n1 = n2
  · rw [show jv2 b n1 n2 u = .int 1 u from by unfold jv2; rw [if_pos hq]]
    k_steps
    (with_reducible rename Fr _ _ _ _ => Fx)
    exact hQ _ _ hos' hG' (sfB.then_keep Fx.keep) (tB.keep Fx.keep) ⟨_, by unfold dv2; rw [if_pos hq]; rfl⟩
  · by_cases hm : n1 = [] ∨ n2 = []
    · rw [show jv2 b n1 n2 u = .int 0 u from by unfold jv2; rw [if_neg hq, if_pos hm]]
      k_steps
      (with_reducible rename Fr _ _ _ _ => Fx)
      exact hQ _ _ hos' hG' (sfB.then_keep Fx.keep) (tB.keep Fx.keep) ⟨_, by unfold dv2; rw [if_neg hq, if_pos hm]; rfl⟩
    · rw [show jv2 b n1 n2 u = .float (quo (cc b (cand (cnt n1) (cnt n2))) (cc b (cor (cnt n1) (cnt n2)))) u from by unfold jv2; rw [if_neg hq, if_neg hm]]
      k_steps
      (with_reducible rename Fr _ _ _ _ => Fx)
      exact hQ _ _ hos' hG' (sfB.then_keep Fx.keep) (tB.keep Fx.keep) ⟨_, by unfold dv2; rw [if_neg hq, if_neg hm]⟩

end

section
open PySem PySem.W PySem.Calls PyProof.Rows
set_option maxHeartbeats 4000000
/-- the law's statements, as the top holds them -/
noncomputable def lawBody (w : World) : List Stmt := match (hd.heap_39 w.params).lookup 387 with
  | some ⟨_, _, .func fd, _⟩ => (match fd.body with | .stmts b => b | _ => [])
  | _ => []
noncomputable def lawEnv (w : World) (L : Addr) : Env := match (hd.heap_39 w.params).lookup 387 with
  | some ⟨_, _, .func fd, _⟩ => envOfC fd.qualname fd.scope L 387 fd.code
  | _ => default
noncomputable def lawIs (w : World) (i : Nat) : List Stmt := (lawBody w).drop i
/-- no way out by an exception -/
abbrev noE : Value → Shared → Prop := fun _ _ => False

end

section
open PySem PySem.W PySem.Calls PyProof.Rows
set_option maxHeartbeats 4000000
/-- a fresh object -/
def ONew (h₀ h : Heap) (T : Addr) (F : Obj → Prop) : Prop := ∃ o, h₀.get? T = none ∧ h.get? T = some o ∧ F o
/-- a fresh object that lies apart from X -/
def OSep (h₀ : Heap) (X : List Addr) (h : Heap) (T : Addr) (F : Obj → Prop) : Prop := ∃ o, T ∉ X ∧ h₀.get? T = none ∧ h.get? T = some o ∧ F o
theorem OSep.keep {h₀ h h' : Heap} {X : List Addr} {T : Addr} {F : Obj → Prop} (s : OSep h₀ X h T F) (k : ∀ b o, b ∉ X → h.get? b = some o → h'.get? b = some o) : OSep h₀ X h' T F :=
  let ⟨o, a, b, c, d⟩ := s; ⟨o, a, b, k _ _ a c, d⟩
theorem OSep.new {h₀ h : Heap} {X : List Addr} {T : Addr} {F : Obj → Prop} (s : OSep h₀ X h T F) : ONew h₀ h T F := let ⟨o, _, b, c, d⟩ := s; ⟨o, b, c, d⟩
theorem ONew.sep {h₀ h h' : Heap} {X : List Addr} {T : Addr} {F : Obj → Prop} (C : ONew h h' T F) (hX : ∀ x ∈ X, ∃ o, h.get? x = some o) (k : ∀ b o, b ∉ X → h₀.get? b = some o → h.get? b = some o) : OSep h₀ X h' T F := by
  obtain ⟨o, a, b, f⟩ := C
  have n1 : T ∉ X := fun hm => by obtain ⟨o, ho⟩ := hX T hm; rw [a] at ho; cases ho
  refine ⟨o, n1, ?_, b, f⟩
  cases q : h₀.get? T with
  | none => rfl
  | some o => rw [k T o n1 q] at a; cases a
/-- a statement is through -/
structure Next (fl : Flow) (p : Prop) : Prop where
  fl : fl = .next
  out : p
theorem one_stmt {M : Model} {A : Around} {E : Value → Shared → Prop} {s : Shared} {st : Stmt} {rest : List Stmt} {env : Env} {Q : Flow → Shared → Prop}
    (h : wpAny M A (exec st env) (fun fl s' => Next fl (wpAny M A (execs rest env) Q E s')) E s) : wpAny M A (execs (st :: rest) env) Q E s :=
  wpAny_execs_cons (wpAny_mono h (fun fl s' h' => by obtain ⟨rfl, h'⟩ := h'; exact h') fun _ _ e => e)
section
variable {prog : Program} {w : World} {A : Around} {E : Value → Shared → Prop} {env : Env} {s : Shared}
/-- a list comprehension that makes an object of each item of a list -/
theorem objComp {elt iter : Expr} {x : Str} {px : Pos} {scope : Scope} {cl : List (Str × Addr)} {pos : Pos} {Q : Value → Shared → Prop} (hh : A.handled = none)
    (hclos : closureFor scope env = pure cl) (hcell : ∀ y ∈ scope.names, y.2 ≠ .cell) (hkind : scope.kind = .function)
    (hnames : ∀ y ∈ scope.names, y.2 = .local → scope.names.lookup y.1 = some .local) (hx : scope.names.lookup x = some .local)
    (h : wpAny (model prog w) A (eval iter env) (fun xv s₁ => Hold (∃ (l : Addr) (vs : List Value) (f : Nat → Obj → Prop), xv = .ref l ∧ s₁.heap.IsList l vs.toArray ∧ vs.length ≤ 100 ∧
      (∀ C i v s₃ m₃ E', vs[i]? = some v → s₃.heap.Ns C m₃ → m₃ x = some v → (∀ b o, s₁.heap.get? b = some o → s₃.heap.get? b = some o) →
        wpAny (model prog w) A (eval elt (compEnvC scope cl C env)) (fun y s₄ => (∃ T, y = .ref T ∧ ONew s₃.heap s₄.heap T (f i)) ∧ Keeps s₃ s₄) E' s₃) ∧
      (∀ (D : Addr) (h' : Heap) (tk : Nat) (ts : List Addr), s₁.heap.get? D = none → h'.PlainList D (ts.map Value.ref).toArray → ts.length = vs.length → (∀ j T, ts[j]? = some T → ONew s₁.heap h' T (f j)) → (∀ b o, s₁.heap.get? b = some o → h'.get? b = some o) →
        Q (.ref D) { s₁ with heap := h', toks := tk }))) E s)
    (hs : ∀ x, foldedSetIterable iter env x = pure x := by intro _; rfl) :
    wpAny (model prog w) A (eval (.ListComp elt [⟨.Name x px, iter, [], 0⟩] scope pos) env) Q E s := by
  rw [eval_ListComp]
  refine wpAny_comprehension_free (use := none) rfl hs hclos hkind hnames (wpAny_mono h (fun xv s₁ h₁ => ?_) fun _ _ e => e)
  obtain ⟨l, vs, f, rfl, hl, hlen, helt, hQ⟩ := h₁.out
  have hllt : l < s₁.heap.objs.size := let ⟨_, e, _⟩ := hl; Heap.lt_size e
  refine wpAny_pyIter_list hl ?_
  generalize hI : s₁.heap.objs.size = I
  generalize hio : ({ cls := .type "list_iterator", data := .fields #[.ref l, .int 0 0] } : Obj) = io
  have hlI : l ≠ I := by subst hI; exact Nat.ne_of_lt hllt
  have W : Walks prog w A I [I, l] [I] vs.toArray.size _ _ := Walks.list hh I l hlI vs.toArray
  have old : ∀ b o, s₁.heap.get? b = some o → b < I := fun b o e => by subst hI; exact Heap.lt_size e
  refine wpAny_newObj_type (wpAny_newFunctionEnv hcell (by intro y hy; simp at hy) (fun h₁ hns₁ hsb₁ => ?_) hkind)
  dsimp only at hns₁ hsb₁ ⊢
  generalize hD0 : (s₁.heap.push io).objs.size = D at hns₁ hsb₁ ⊢
  generalize hH : (s₁.heap.push io).push { cls := .type "list", dict := none, data := .seq ([] : List Value).toArray } = H at hns₁ hsb₁ ⊢
  generalize hC0 : H.objs.size = C at hns₁ hsb₁ ⊢
  have hDI : D = I + 1 := by subst hD0 hI; exact Heap.size_push ..
  have hCD : C = D + 1 := by subst hC0 hH hD0; exact Heap.size_push ..
  have lt1 : (I : Nat) < D := by rw [hDI]; exact Nat.lt_succ_self _
  have lt2 : (D : Nat) < C := by rw [hCD]; exact Nat.lt_succ_self _
  have gI : H.get? I = some io := by subst hH; exact Heap.get?_push_of_some _ (by subst hI; exact Heap.get?_push_size _ (by subst hio; rfl))
  have gD : H.get? D = some { cls := .type "list", dict := none, data := .seq ([] : List Value).toArray } := by subst hH hD0; exact Heap.get?_push_size _ rfl
  have gO : ∀ b o, s₁.heap.get? b = some o → H.get? b = some o := fun b o e => by subst hH; exact Heap.get?_push_of_some _ (Heap.get?_push_of_some _ e)
  have up : ∀ b o, b ≠ C → H.get? b = some o → h₁.get? b = some o := fun b o hb e => hsb₁.extBut b o hb (Heap.get?_push_of_some _ e)
  have oldC : ∀ b o, s₁.heap.get? b = some o → b ≠ C ∧ b ≠ D ∧ b ≠ I := fun b o e =>
    ⟨Nat.ne_of_lt (Nat.lt_trans (old b o e) (Nat.lt_trans lt1 lt2)), Nat.ne_of_lt (Nat.lt_trans (old b o e) lt1), Nat.ne_of_lt (old b o e)⟩
  have nCD : D ≠ C := Nat.ne_of_lt lt2
  have nCI : I ≠ C := Nat.ne_of_lt (Nat.lt_trans lt1 lt2)
  have nDI : I ≠ D := Nat.ne_of_lt lt1
  have hlC := oldC l _ hl.choose_spec.1
  have hst₁ : h₁.IsListIter I l 0 ∧ h₁.IsList l vs.toArray := by
    obtain ⟨ol, hol, r⟩ := hl
    exact ⟨⟨io, up I io nCI gI, by subst hio; rfl, by subst hio; rfl⟩, ⟨ol, up l ol hlC.1 (gO l ol hol), r⟩⟩
  have hacc : h₁.PlainList D (([] : List Addr).map Value.ref).toArray := ⟨_, up D _ nCD gD⟩
  have loop : codeAny (model prog w) A (.compLoop (.ListComp elt [⟨.Name x px, iter, [], 0⟩] scope pos) 0 (.ref I) (.ref D) (compEnvC scope cl C env))
      (compPost (model prog w) A E none Q (.ref D) C) { s₁ with heap := h₁, toks := s₁.toks + ([] : List (Str × Value)).length } := by
    refine codeAny_compLoop_tests
      (fun k s' => ∃ (h' : Heap) (tk : Nat) (m' : Str → Option Value) (ts : List Addr), s' = { s₁ with heap := h', toks := tk } ∧ (h'.IsListIter I l ts.length ∧ h'.IsList l vs.toArray) ∧ h'.PlainList D (ts.map Value.ref).toArray ∧ h'.Ns C m' ∧ (∀ j T, ts[j]? = some T → OSep s₁.heap [C, D, I] h' T (f j)) ∧
        ts.length ≤ vs.length ∧ k = vs.length + 1 - ts.length ∧ (∀ b o, s₁.heap.get? b = some o → h'.get? b = some o)) ?_ (vs.length + 1)
      ⟨h₁, _, _, [], rfl, hst₁, hacc, hns₁, fun _ _ e => by simp at e, Nat.zero_le _, rfl, fun b o e => up b o (oldC b o e).1 (gO b o e)⟩
    rintro k s' ⟨h', tk, m', ts, rfl, hst, hpl, hns, hts, hle, rfl, hk⟩
    by_cases hlt : ts.length < vs.length
    · refine W.item ts.length _ _ _ (by simpa using hlt) hst fun v h₂ tk₂ hP hst₂ hk₂ => ?_
      have k2 : ∀ b o, b ≠ I → h'.get? b = some o → h₂.get? b = some o := fun b o hb e => hk₂ b o (by simpa using hb) e
      obtain ⟨oC, _, _, goC, _⟩ := id hns
      refine wpAny_assign_Name (wpAny_storeName_local (lookup_relabel_local hx) (hns.at' fun o e => k2 C o (Ne.symm nCI) e) (fun h₃ hn₃ hs₃ => ?_) (by simp [compEnvC, relabel, hkind]))
      have k3 : ∀ b o, b ≠ I → b ≠ C → h'.get? b = some o → h₃.get? b = some o := fun b o hb hb2 e => hs₃.extBut b o hb2 (k2 b o hb e)
      refine wpAny_pure ?_
      rw [if_pos rfl]
      have hst₃ := W.frame _ _ h₃ hst₂ fun b hb o e => hs₃.extBut b o (by
        rcases List.mem_cons.mp hb with rfl | hb
        · exact nCI
        · rw [List.mem_singleton.mp hb]; exact hlC.1) e
      have hvi : vs[ts.length]? = some v := by simpa using hP
      refine wpAny_mono (helt C ts.length v _ _ _ hvi hn₃ (by simp) fun b o e => k3 b o (oldC b o e).2.2 (oldC b o e).1 (hk b o e)) ?_ fun _ _ e => e
      rintro y s₄ ⟨⟨T, rfl, hT⟩, h₄, tk₄, rfl, hk₄⟩
      dsimp only at hT hk₄
      have hpl₄ : h₄.PlainList D (ts.map Value.ref).toArray := hpl.at fun o e => hk₄ _ _ (k3 D o (Ne.symm nDI) nCD e)
      refine wpAny_list_append_plain (s := { s₁ with heap := h₄, toks := tk₄ }) hpl₄ (fun h₅ hpl₅ hs₅ => ?_) (by rw [sizeLine_eq, List.size_toArray, List.length_map]; omega)
      have k5 : ∀ b o, b ∉ [C, D, I] → h'.get? b = some o → h₅.get? b = some o := fun b o hb e => by
        simp only [List.mem_cons, List.not_mem_nil, or_false, not_or] at hb
        exact hs₅.extBut b o hb.2.1 (hk₄ b o (k3 b o hb.2.2 hb.1 e))
      have k35 : ∀ b o, b ≠ D → h₃.get? b = some o → h₅.get? b = some o := fun b o hb e => hs₅.extBut b o hb (hk₄ b o e)
      have hTs : OSep s₁.heap [C, D, I] h₅ T (f ts.length) := by
        refine OSep.keep (hT.sep ?_ fun b o hb e => ?_) fun b o hb e => ?_
        · intro z hz
          simp only [List.mem_cons, List.not_mem_nil, or_false] at hz
          rcases hz with rfl | rfl | rfl
          · obtain ⟨o, _, _, e, _⟩ := hn₃; exact ⟨o, e⟩
          · obtain ⟨n, e⟩ := hpl; exact ⟨_, k3 _ _ (Ne.symm nDI) nCD e⟩
          · obtain ⟨⟨o, e, _⟩, _⟩ := hst₃; exact ⟨o, e⟩
        · exact k3 b o (oldC b o e).2.2 (oldC b o e).1 (hk b o e)
        · simp only [List.mem_cons, List.not_mem_nil, or_false, not_or] at hb
          exact hs₅.extBut b o hb.2.1 e
      refine ⟨vs.length + 1 - (ts ++ [T]).length, by simp; omega, h₅, tk₄, _, ts ++ [T], rfl, ?_, by simpa using hpl₅, (hn₃.keeps hk₄).sameBut hs₅ (Ne.symm nCD), ?_, by simp; omega, rfl, fun b o e => k5 b o (by simp only [List.mem_cons, List.not_mem_nil, or_false, not_or]; exact oldC b o e) (hk b o e)⟩
      · have := W.frame _ _ h₅ hst₃ fun b hb o e => k35 b o (by
          rcases List.mem_cons.mp hb with rfl | hb
          · exact nDI
          · rw [List.mem_singleton.mp hb]; exact hlC.2.1) e
        simpa using this
      · intro j T' hj
        rcases Nat.lt_trichotomy j ts.length with hj1 | hj1 | hj1
        · rw [List.getElem?_append_left hj1] at hj
          exact (hts j T' hj).keep k5
        · subst hj1; simp at hj; subst hj; exact hTs
        · rw [List.getElem?_eq_none (by simp; omega)] at hj; cases hj
    · have hin : ts.length = vs.length := by omega
      have hst' := hst
      rw [hin] at hst'
      refine W.done _ _ _ (by simpa using hst') fun h₂ tk₂ hk₂ => ?_
      have k2 : ∀ b o, b ≠ I → h'.get? b = some o → h₂.get? b = some o := fun b o hb e => hk₂ b o (by simpa using hb) e
      refine ⟨m', hns.at' fun o e => k2 C o (Ne.symm nCI) e, fun h'' hs'' => ?_⟩
      have k4 : ∀ b o, b ≠ I → b ≠ C → h'.get? b = some o → h''.get? b = some o := fun b o h1 h2 e => hs''.extBut b o h2 (k2 b o h1 e)
      refine hQ D h'' tk₂ ts ?_ (hpl.at fun o e => k4 _ _ (Ne.symm nDI) nCD e) hin (fun j T hj => ((hts j T hj).keep fun b o hb e => k4 b o (fun z => hb (by simp [z])) (fun z => hb (by simp [z])) e).new) fun b o e => k4 b o (oldC b o e).2.2 (oldC b o e).1 (hk b o e)
      exact Heap.get?_none_of_le (by rw [hI]; exact Nat.le_of_lt lt1)
  exact codeAny_compStart_list loop (W.self 0 _ _ _ hst₁ loop)
end

end

section
open PySem PySem.W PySem.Calls PyProof.Rows
set_option maxHeartbeats 400000
/-- an address that is none of the law's eight cells -/
def OffC (L R : Nat) : Prop := R < L + 1 ∨ L + 8 < R
theorem off_cells {h₀ h : Heap} {L R : Addr} {news : List (Addr × Obj)} (N : News h₀ L h news) (hR : h.get? R = none)
    (hc : ∀ i : Nat, 1 ≤ i → i ≤ 8 → ∃ o, ((L + i : Nat), o) ∈ news) : OffC L R := by
  unfold OffC
  apply Classical.byContradiction
  intro hn
  have h1 : L + 1 ≤ R ∧ R ≤ L + 8 := by
    have a : ¬ ((R : Nat) < L + 1) := fun q => hn (.inl q)
    have b : ¬ ((L : Nat) + 8 < R) := fun q => hn (.inr q)
    exact ⟨Nat.le_of_not_lt a, Nat.le_of_not_lt b⟩
  obtain ⟨o, ho⟩ := hc (R - L) (by have := h1.1; omega) (by have := h1.2; omega)
  have e : @Eq Nat (L + (R - L)) R := Nat.add_sub_cancel' (Nat.le_of_succ_le h1.1)
  rw [e] at ho
  have := (N _ ho).1
  rw [hR] at this
  cases this
theorem eight {L : Nat} {P : Nat → Prop} (h1 : P (L + 1)) (h2 : P (L + 1 + 1)) (h3 : P (L + 1 + 1 + 1)) (h4 : P (L + 1 + 1 + 1 + 1)) (h5 : P (L + 1 + 1 + 1 + 1 + 1)) (h6 : P (L + 1 + 1 + 1 + 1 + 1 + 1)) (h7 : P (L + 1 + 1 + 1 + 1 + 1 + 1 + 1)) (h8 : P (L + 1 + 1 + 1 + 1 + 1 + 1 + 1 + 1)) :
    ∀ i : Nat, 1 ≤ i → i ≤ 8 → P (L + i) := by
  intro i a b
  rcases (by omega : i = 1 ∨ i = 2 ∨ i = 3 ∨ i = 4 ∨ i = 5 ∨ i = 6 ∨ i = 7 ∨ i = 8) with rfl | rfl | rfl | rfl | rfl | rfl | rfl | rfl <;> assumption
theorem off_cells8 {h₀ h : Heap} {L R : Addr} {news : List (Addr × Obj)} {o1 o2 o3 o4 o5 o6 o7 o8 : Obj} (N : News h₀ L h news) (hR : h.get? R = none)
    (h1 : (L + 1, o1) ∈ news) (h2 : (L + 1 + 1, o2) ∈ news) (h3 : (L + 1 + 1 + 1, o3) ∈ news) (h4 : (L + 1 + 1 + 1 + 1, o4) ∈ news) (h5 : (L + 1 + 1 + 1 + 1 + 1, o5) ∈ news) (h6 : (L + 1 + 1 + 1 + 1 + 1 + 1, o6) ∈ news)
    (h7 : (L + 1 + 1 + 1 + 1 + 1 + 1 + 1, o7) ∈ news) (h8 : (L + 1 + 1 + 1 + 1 + 1 + 1 + 1 + 1, o8) ∈ news) : @LT.lt Nat _ R (L + 1) ∨ @LT.lt Nat _ (L + 8) R :=
  off_cells N hR (eight (P := fun c => ∃ o, (c, o) ∈ news) ⟨_, h1⟩ ⟨_, h2⟩ ⟨_, h3⟩ ⟨_, h4⟩ ⟨_, h5⟩ ⟨_, h6⟩ ⟨_, h7⟩ ⟨_, h8⟩)
theorem news_pick {h₀ h : Heap} {L : Addr} {news news' : List (Addr × Obj)} (N : News h₀ L h news) (hs : SubL news' news) : News h₀ L h news' := fun q hq => N q (hs.mem q hq)

end

section
open PySem PySem.W PySem.Calls PyProof.Rows
set_option maxHeartbeats 4000000
/-- a list of ints -/
def IntsAt (h : Heap) (r : Addr) (ns : List Int) : Prop := ∃ vs, h.IsList r (List.toArray vs) ∧ IntsAre vs ns
theorem IntsAt.keep {h h' : Heap} {r : Addr} {ns : List Int} (R : IntsAt h r ns) (k : ∀ b o, h.get? b = some o → h'.get? b = some o) : IntsAt h' r ns :=
  let ⟨vs, ⟨o, a, b⟩, i⟩ := R; ⟨vs, ⟨o, k _ _ a, b⟩, i⟩
section
variable {prog : Program} {w : World} {A : Around} {E : Value → Shared → Prop} {s : Shared}
/-- a row's item -/
theorem q_item {value slice : PySem.Expr} {r : Addr} {ns : List Int} {k : Int} {u : Tok} {Q : Value → Shared → Prop} (R : RowAt s.heap r ns) (h0 : 0 ≤ k) (h1 : k < ns.length) (hz : ns.length ≤ 100) (h : ∀ t, Q (.int (ns.getD k.toNat 0) t) s)
    (hs : subscripted slice false (.ref r) (.int k u) = operate [.ref r, .int k u] (getItem (.ref r) (.int k u)) := by with_unfolding_all rfl) (hg : ∀ x, letTemporaryGo value (.ref r) x = pure () := by intro _; with_unfolding_all rfl) :
    wpAny (model prog w) A (subscriptTail value slice (.ref r) (.int k u)) Q E s := by
  obtain ⟨vs, hl, hi⟩ := R
  exact item_tuple_ints hl hi h0 h1 (by omega) h hs hg
theorem adjust_upto (a n : Nat) (ha : a ≤ n) : Builtin.Slice.sliceAdjust none (some (a : Int)) 1 (n : Int) = (0, (a : Int)) := by
  unfold Builtin.Slice.sliceAdjust
  have h1 : ¬ ((1 : Int) < 0) := by omega
  have h2 : ¬ ((a : Int) < 0) := by omega
  simp only [h1, h2, if_false]
  congr 1
  omega
theorem places_upto (a : Nat) : Builtin.Slice.slicePlaces 0 (a : Int) 1 = a := by
  unfold Builtin.Slice.slicePlaces
  have h1 : (1 : Int) > 0 := by omega
  simp only [h1, if_true, Int.ediv_one]
  split <;> omega
theorem sliceApplied_upto {sl : Addr} {a n : Nat} {u : Tok} {Q : Int × Int × Nat → Shared → Prop} (hs : s.heap.IsSliceOf sl .none (.int a u) .none) (ha : a ≤ n) (h : Q (0, 1, a) s) :
    wpAny (model prog w) A (Builtin.Slice.sliceApplied (.ref sl) (pure (n : Int))) Q E s := by
  obtain ⟨os, hos, hcs, hds⟩ := id hs
  unfold Builtin.Slice.sliceApplied Builtin.Slice.sliceFields
  refine wpAny_bind (wpAny_bind (wpAny_field hos hds (x := .none) rfl (wpAny_bind (wpAny_field hos hds (x := .int a u) rfl (wpAny_bind (wpAny_field hos hds (x := .none) rfl (wpAny_pure ?_)))))))
  refine wpAny_bind (slicePart_none ?_)
  show wpAny _ _ (if ((1 : Int) == 0) = true then _ else _) _ _ s
  rw [if_neg (by decide)]
  refine wpAny_bind (slicePart_none (wpAny_bind (slicePart_int (wpAny_bind (wpAny_pure ?_)))))
  show wpAny _ _ (match Builtin.Slice.sliceAdjust none (some (a : Int)) 1 (n : Int) with | (lo, hi) => pure (lo, (1 : Int), Builtin.Slice.slicePlaces lo hi 1)) _ _ s
  rw [adjust_upto a n ha]
  show wpAny _ _ (pure ((0 : Int), (1 : Int), Builtin.Slice.slicePlaces 0 (a : Int) 1)) _ _ s
  rw [places_upto a]
  exact wpAny_pure h
theorem pick_upto (xs : Array Value) (a : Nat) (_ha : a ≤ xs.size) : ((List.range a).filterMap fun (k : Nat) => xs[((0 : Int) + (k : Int) * 1).toNat]?).toArray = (xs.toList.take a).toArray := by
  have e : (fun (k : Nat) => xs[((0 : Int) + (k : Int) * 1).toNat]?) = fun k => xs[0 + k]? := by
    funext k
    have : ((0 : Int) + (k : Int) * 1).toNat = 0 + k := by omega
    rw [this]
  rw [e]
  have := pick_run xs 0 a
  rw [List.filterMap_map] at this
  have e2 : ((fun x => xs[x]?) ∘ fun x => 0 + x) = fun k => xs[0 + k]? := rfl
  rw [e2] at this
  rw [this, List.drop_zero]
theorem getItem_tuple_upto {t sl : Addr} {items : Array Value} {a : Nat} {u : Tok} {Q : Value → Shared → Prop} (ht : IsTup s.heap t items) (hs : s.heap.IsSliceOf sl .none (.int a u) .none) (ha : a < items.size)
    (h : Q (.ref s.heap.objs.size) { s with heap := s.heap.push { cls := .type "tuple", data := .seq (items.toList.take a).toArray } })
    (hsz : items.size ≤ sizeLine := by size_fits) : wpAny (model prog w) A (getItem (.ref t) (.ref sl)) Q E s := by
  have hdrop : sizeOk (.seq (items.toList.take a).toArray) := by
    show (items.toList.take a).toArray.size ≤ sizeLine
    rw [List.size_toArray, List.length_take, Array.length_toList]
    omega
  obtain ⟨os, hos, hcs, hds⟩ := id hs
  have hTs : s.TypeIs (.ref sl) "slice" := ⟨os, hos, hcs⟩
  unfold getItem
  try with_reducible refine wpAny_holding ?_
  first | refine wpAny_bind (wpAny_pure ?_) | skip
  refine wpAny_bind (wpAny_sequenceKey ht.typeIs (by decide) ?_)
  refine wpAny_bind (wpAny_callSpecial?_slot (name := Str.ofString "__getitem__") ht.typeIs slot_tuple_getitem
    (wpAny_call_entry slot_tuple_getitem ht.typeIs entry_tuple_getitem ?_ (args_tuple_getitem _ _)))
  show wpAny _ _ (Builtin.Tuple.tupleItemsOf (.ref t) >>= _) _ _ s
  refine wpAny_bind (tupleItemsOf_ ht ?_)
  refine wpAny_bind (wpAny_typeOf hTs ?_)
  rw [if_pos (by decide)]
  refine wpAny_bind (sliceApplied_upto hs (Nat.le_of_lt ha) ?_)
  have hno : ¬ (((0 : Int) == 0 && (1 : Int) == 1 && a == items.size) = true) := by
    have : (a == items.size) = false := by rw [beq_eq_false_iff_ne]; omega
    rw [this]; simp
  show wpAny _ _ (if ((0 : Int) == 0 && (1 : Int) == 1 && a == items.size) = true then _ else _) _ _ s
  rw [if_neg hno, pick_upto items a (Nat.le_of_lt ha)]
  first
    | exact wpAny_bind (m := Builtin.Tuple.tupleExact _) (wpAny_newObj_type (wpAny_pure ⟨_, rfl, wpAny_pure h⟩) hdrop)
    | exact wpAny_bind (m := Builtin.Tuple.tupleExact _) (wpAny_newObj_type (wpAny_bind (wpAny_pure (wpAny_pure ⟨_, rfl, wpAny_pure h⟩))) hdrop)
    | exact wpAny_bind (wpAny_bind (m := Builtin.Tuple.tupleExact _) (wpAny_newObj_type (wpAny_pure (wpAny_pure ⟨_, rfl, wpAny_pure h⟩)) hdrop))
    | exact wpAny_bind (wpAny_bind (m := Builtin.Tuple.tupleExact _) (wpAny_newObj_type (wpAny_pure ⟨_, rfl, wpAny_pure h⟩) hdrop))
theorem ints_take {vs : List Value} {ns : List Int} (h : IntsAre vs ns) : ∀ k, IntsAre (vs.take k) (ns.take k) := by
  induction h with
  | nil => intro k; simp; exact .nil
  | cons n t _ ih =>
    intro k
    cases k with
    | zero => exact .nil
    | succ k => exact .cons _ _ (ih k)
/-- a row's first items -/
theorem q_upto {value slice : PySem.Expr} {r : Addr} {ns : List Int} {k : Nat} {u : Tok} {Q : Value → Shared → Prop} (R : RowAt s.heap r ns) (h1 : k < ns.length) (hz : ns.length ≤ 100)
    (h : ∀ T h', (∀ b o, s.heap.get? b = some o → h'.get? b = some o) → RowAt h' T (ns.take k) → Hold (Q (.ref T) { s with heap := h' }))
    (hs : subscripted slice false (.ref r) (.ref s.heap.objs.size) = operate [.ref s.heap.objs.size, .ref r] (getItem (.ref r) (.ref s.heap.objs.size)) := by with_unfolding_all rfl)
    (hg : ∀ x, letTemporaryGo value (.ref r) x = pure () := by intro _; with_unfolding_all rfl) :
    wpAny (model prog w) A (subscriptTail value slice (.ref r) (.ref s.heap.objs.size)) Q E { s with heap := s.heap.push { cls := .type "slice", data := .fields #[.none, .int k u, .none] } } := by
  obtain ⟨vs, ht, hi⟩ := R
  have hlen := hi.length
  have ht' : IsTup (s.heap.push { cls := .type "slice", data := .fields #[.none, .int k u, .none] }) r vs.toArray := IsTup.keeps ht fun _ _ e => Heap.get?_push_of_some _ e
  refine subscriptTail_ops (s := { s with heap := s.heap.push { cls := .type "slice", data := .fields #[.none, .int k u, .none] } }) ht'.typeIs slot_tuple_getitem.lookup
    (getItem_tuple_upto ht' (Heap.IsSliceOf.new ..) (by rw [List.size_toArray]; omega) ?_ (by rw [sizeLine_eq, List.size_toArray]; omega)) hs hg
  exact (h _ _ (fun b o e => Heap.get?_push_of_some _ (Heap.get?_push_of_some _ e)) ⟨vs.take k, ⟨_, Heap.get?_push_size _ rfl, rfl, 0, rfl⟩, ints_take hi k⟩).out
theorem q_nin_tup {r : Addr} {ns : List Int} {a : Int} {u : Tok} {Q : Value → Shared → Prop} (R : RowAt s.heap r ns) (h : Q (.bool (!(ns.any (· == a)))) s) : wpAny (model prog w) A (compareOp .NotIn (.int a u) (.ref r)) Q E s := by
  obtain ⟨vs, ht, hi⟩ := R
  exact PySem.SeqAt.notIn_tupleAt (isInt a) ht (fun y hy => (eq_isInt a u hi y (by simpa using hy)).at _ _) (by rw [← Array.any_toList, show vs.toArray.toList = vs from rfl, any_isInt a hi]; exact h)
theorem q_nin_list {r : Addr} {ns : List Int} {a : Int} {u : Tok} {Q : Value → Shared → Prop} (R : IntsAt s.heap r ns) (h : Q (.bool (!(ns.any (· == a)))) s) : wpAny (model prog w) A (compareOp .NotIn (.int a u) (.ref r)) Q E s := by
  obtain ⟨vs, ht, hi⟩ := R
  exact notin_list_ints ht hi h
end

end

section
open PySem PySem.W PySem.Calls PyProof.Rows
set_option maxHeartbeats 4000000
/-- a source that a loop or a comprehension may run over -/
def Src (prog : Program) (w : World) (A : Around) (xv : Value) (n : Nat) (P : Nat → Value → Prop) (s : Shared) : Prop :=
  ∃ (io : Obj) (fp : List Addr) (St : Nat → Heap → Prop), (∀ (Q' : Value → Shared → Prop) (E' : Value → Shared → Prop), Q' (.ref s.heap.objs.size) { s with heap := s.heap.push io } → wpAny (model prog w) A (pyIter xv) Q' E' s) ∧
    Walks prog w A s.heap.objs.size fp [s.heap.objs.size] n P St ∧ St 0 (s.heap.push io) ∧ ∀ b ∈ fp, b < s.heap.objs.size + 1
section
variable {prog : Program} {w : World} {A : Around} {E : Value → Shared → Prop} {env : Env} {s : Shared} {h₀ : Heap}
theorem src_list {l : Addr} {vs : List Value} (hh : A.handled = none) (hl : s.heap.IsList l vs.toArray) : Src prog w A (.ref l) vs.length (fun i v => vs[i]? = some v) s := by
  have hlt : l < s.heap.objs.size := let ⟨_, e, _⟩ := hl; Heap.lt_size e
  have W := Walks.list (prog := prog) (w := w) hh s.heap.objs.size l (Nat.ne_of_lt hlt) vs.toArray
  have e : (fun (i : Nat) (v : Value) => vs.toArray[i]? = some v) = fun i v => vs[i]? = some v := by funext i v; simp
  rw [e, List.size_toArray] at W
  refine ⟨_, [s.heap.objs.size, l], _, fun Q' E' q => wpAny_pyIter_list hl q, W, ?_, ?_⟩
  · exact ⟨⟨_, Heap.get?_push_size _ rfl, rfl, rfl⟩, let ⟨o, a, b⟩ := hl; ⟨o, Heap.get?_push_of_some _ a, b⟩⟩
  · intro b hb
    rcases List.mem_cons.mp hb with rfl | hb
    · exact Nat.lt_succ_self _
    · rw [List.mem_singleton.mp hb]; exact Nat.lt_succ_of_lt hlt
theorem src_tuple {l : Addr} {vs : List Value} (hh : A.handled = none) (hl : s.heap.IsTuple l vs.toArray) : Src prog w A (.ref l) vs.length (fun i v => vs[i]? = some v) s := by
  have hlt : l < s.heap.objs.size := let ⟨_, e, _⟩ := hl; Heap.lt_size e
  have W := Walks.tuple (prog := prog) (w := w) hh s.heap.objs.size l (Nat.ne_of_lt hlt) vs.toArray
  have e : (fun (i : Nat) (v : Value) => vs.toArray[i]? = some v) = fun i v => vs[i]? = some v := by funext i v; simp
  rw [e, List.size_toArray] at W
  refine ⟨_, [s.heap.objs.size, l], _, fun Q' E' q => wpAny_pyIter_tuple hl q, W, ?_, ?_⟩
  · exact ⟨⟨_, Heap.get?_push_size _ rfl, rfl, rfl⟩, let ⟨o, a, b⟩ := hl; ⟨o, Heap.get?_push_of_some _ a, b⟩⟩
  · intro b hb
    rcases List.mem_cons.mp hb with rfl | hb
    · exact Nat.lt_succ_self _
    · rw [List.mem_singleton.mp hb]; exact Nat.lt_succ_of_lt hlt
theorem src_range {r : Addr} {n : Nat} {t₀ u₀ v₀ : Tok} (hh : A.handled = none) (hr : IsRange s.heap r 0 n 1 t₀ u₀ v₀) (hn : n ≤ 1000) : Src prog w A (.ref r) n (fun i v => i < n ∧ ∃ t, v = Value.int i t) s := by
  have hsz : Builtin.Range.rangeSize 0 n 1 = (n : Int) := by
    unfold Builtin.Range.rangeSize
    simp only [Int.ediv_one]
    split
    · split <;> omega
    · omega
  have W := (Walks.range (prog := prog) (w := w) hh s.heap.objs.size 0 1 n).bound
  refine ⟨_, [s.heap.objs.size], (fun i h => IsRangeIter h s.heap.objs.size (0 + (i : Nat) * 1) ((n : Int) - (i : Nat)) 1), fun Q' E' q => wpAny_pyIter_range hr (by unfold Builtin.Range.small Builtin.Range.rangeFitsLong; simp only [hsz]; simp; omega) q, ?_, ?_, ?_⟩
  · have e : (fun (i : Nat) (v : Value) => i < n ∧ ∃ t, v = Value.int (0 + (i : Int) * 1) t) = fun (i : Nat) (v : Value) => i < n ∧ ∃ t, v = Value.int (i : Int) t := by
      funext i v
      rw [show (0 : Int) + (i : Int) * 1 = (i : Int) by omega]
    rw [e] at W
    exact W
  · show IsRangeIter _ _ _ _ _
    rw [hsz]
    simpa using Heap.get?_push_size _ rfl
  · intro b hb
    rw [List.mem_singleton.mp hb]; exact Nat.lt_succ_self _
/-- a list comprehension of quiet elements; frame and ledger are there for each -/
theorem anyComp {elt iter : Expr} {x : Str} {px : Pos} {ifs : List Expr} {scope : Scope} {cl : List (Str × Addr)} {pos : Pos} {Q : Value → Shared → Prop} (p : Value → Bool) (G : Value → Value → Prop)
    (hclos : closureFor scope env = pure cl) (hcell : ∀ y ∈ scope.names, y.2 ≠ .cell) (hkind : scope.kind = .function)
    (hnames : ∀ y ∈ scope.names, y.2 = .local → scope.names.lookup y.1 = some .local) (hx : scope.names.lookup x = some .local)
    (h : wpAny (model prog w) A (eval iter env) (fun xv s₁ => Hold (∃ (m : Str → Option Value) (news : List (Addr × Obj)) (n : Nat) (P : Nat → Value → Prop), Fr h₀ env.locals s₁.heap m ∧ News h₀ env.locals s₁.heap news ∧ Src prog w A xv n P s₁ ∧ n ≤ 1000 ∧
      (∀ C i v s₃ m₃ E', P i v → m₃ x = some v → Fr h₀ C s₃.heap m₃ → News h₀ C s₃.heap news →
        wpAny (model prog w) A (forIn ifs true fun c r => if r = true then do let ok ← isTrue c (compEnvC scope cl C env) (eval c (compEnvC scope cl C env)); pure (ForInStep.yield ok) else pure (ForInStep.yield r))
          (fun ok s₄ => ok = p v ∧ Keeps s₃ s₄) E' s₃) ∧
      (∀ C i v s₃ m₃ E', P i v → p v = true → m₃ x = some v → Fr h₀ C s₃.heap m₃ → News h₀ C s₃.heap news →
        wpAny (model prog w) A (eval elt (compEnvC scope cl C env)) (fun y s₄ => G v y ∧ Keeps s₃ s₄) E' s₃) ∧
      (∀ (D : Addr) (h' : Heap) (tk : Nat) (ts vs : List Value) (e : Nat), s₁.heap.get? D = none → Fr h₀ env.locals h' m → News h₀ env.locals h' ((D, PySem.W.listOf ts.toArray e) :: news) → vs.length = n → (∀ j v, vs[j]? = some v → P j v) → Paired G (vs.filter p) ts → (∀ b o, s₁.heap.get? b = some o → h'.get? b = some o) →
        Q (.ref D) { s₁ with heap := h', toks := tk }))) E s)
    (hs : ∀ x, foldedSetIterable iter env x = pure x := by intro _; rfl) :
    wpAny (model prog w) A (eval (.ListComp elt [⟨.Name x px, iter, ifs, 0⟩] scope pos) env) Q E s := by
  refine wpAny_ListComp_free p G hclos hcell hkind hnames hx (wpAny_mono h (fun xv s₁ h₁ => ?_) fun _ _ e => e) hs
  obtain ⟨m, news, n, P, F, N, ⟨io, fp, St, hit, W, hst, hfp⟩, hn, ht, he, hQ⟩ := h₁.out
  refine hit _ _ ?_
  have up : ∀ b o, s₁.heap.get? b = some o → (s₁.heap.push io).get? b = some o := fun b o e => Heap.get?_push_of_some _ e
  have old : ∀ b o, s₁.heap.get? b = some o → b ∉ [s₁.heap.objs.size] := fun b o e => by simpa using Nat.ne_of_lt (Heap.lt_size e)
  have frame : ∀ (C : Addr) (s₃ : Shared) (m₃ : Str → Option Value), (s₁.heap.push io).objs.size ≤ C → s₃.heap.Ns C m₃ → (∀ b o, b ∉ [s₁.heap.objs.size] → (s₁.heap.push io).get? b = some o → s₃.heap.get? b = some o) →
      Fr h₀ C s₃.heap m₃ ∧ News h₀ C s₃.heap news := by
    intro C s₃ m₃ hC hns hk
    rw [Heap.size_push] at hC
    have k1 : ∀ b o, s₁.heap.get? b = some o → s₃.heap.get? b = some o := fun b o e => hk b o (old b o e) (up b o e)
    refine ⟨⟨hns, fun b o e => k1 b o (F.keep b o e), Nat.le_trans F.above (Nat.le_of_lt (Nat.lt_trans F.ns.lt hC))⟩, fun q hq => ?_⟩
    obtain ⟨q1, q2, q3⟩ := N q hq
    exact ⟨k1 _ _ q1, Nat.ne_of_lt (Nat.lt_trans (Heap.lt_size q1) hC), q3⟩
  refine ⟨s₁.heap.objs.size, fp, [s₁.heap.objs.size], n, P, St, rfl, W, by rw [sizeLine_eq]; omega, hst, fun b hb => by rw [Heap.size_push]; exact hfp b hb, ⟨?_, ?_⟩, ?_⟩
  · intro C i v s₃ m₃ E' hC hP hns hm hk _
    obtain ⟨F3, N3⟩ := frame C s₃ m₃ hC hns hk
    exact ht C i v s₃ m₃ E' hP hm F3 N3
  · intro C i v s₃ m₃ E' hC hP hp hns hm hk _
    obtain ⟨F3, N3⟩ := frame C s₃ m₃ hC hns hk
    exact he C i v s₃ m₃ E' hP hp hm F3 N3
  · intro D h' tk ys vs hD _ hpl hlen hP hF hk
    have k1 : ∀ b o, s₁.heap.get? b = some o → h'.get? b = some o := fun b o e => hk b o (old b o e) (up b o e)
    have hDs : s₁.heap.get? D = none := get_none up hD
    obtain ⟨e, heq⟩ := hpl
    refine hQ D h' tk ys.toList vs e hDs (fr_grow F k1) ?_ hlen hP hF k1
    intro q hq
    rcases List.mem_cons.mp hq with rfl | hq
    · refine ⟨by simpa using heq, ?_, get_none F.keep hDs⟩
      rintro rfl
      obtain ⟨oL, _, _, hL, _⟩ := F.ns
      rw [hL] at hDs; cases hDs
    · exact news_grow N k1 q hq
end

end

open PySem PySem.W PySem.Calls PyProof.Rows
local macro_rules | `(tactic| walk_at "eval ListComp") => `(tactic| (k_here; (with_reducible show wpAny _ _ (eval (Expr.ListComp _ _ _ _) _) _ _ _); refine Hold.out ?_))
local macro_rules | `(tactic| walk_at "eval ListComp") => `(tactic| (k_here; (with_reducible show wpAny _ _ (eval (Expr.ListComp (Expr.Call (Expr.Name (PySem.Str.ofString "tuple") _) _ _ _) _ _ _) _) _ _ _); refine' objComp ?hh ?c1 ?c2 ?c3 ?c4 ?c5 ?_ ?c6; (case hh => k_dflt walk_at "m_hand"); (case c1 => k_dflt exact rfl); (case c2 => k_dflt decide); (case c3 => k_dflt exact rfl); (case c4 => k_dflt decide); (case c5 => k_dflt exact rfl); (case c6 => k_dflt (intro _; rfl))))
local macro_rules | `(tactic| walk_at "call type:tuple") => `(tactic| (k_here; (with_reducible show wpAny _ _ (call (Value.type _) [Value.ref _]) _ _ _); refine Hold.out ?_))

section
open PySem PySem.W PySem.Calls PyProof.Rows
set_option maxHeartbeats 4000000
theorem paired_len {α β : Type} {F : α → β → Prop} {l : List α} {l' : List β} (h : Paired F l l') : l'.length = l.length := by
  induction h with
  | nil => rfl
  | cons _ _ ih => simp [ih]
theorem count_ints (x : Int) {vs : List Value} {ns : List Int} (h : IntsAre vs ns) : (vs.filter fun v => match v with | .int a _ => a == x | _ => false).length = ns.count x := by
  induction h with
  | nil => rfl
  | cons n t _ ih =>
    rw [List.count_cons, ← ih]
    by_cases e : n = x
    · rw [List.filter_cons_of_pos (by simpa using e)]; simp [e]
    · rw [List.filter_cons_of_neg (by simpa using e)]; simp [e]
theorem gives_many {prog : Program} {w : World} {A : Around} {p : Program} {loose : List Str} {mg mb : Str → Option Value} {s : Shared} {r : Addr} {ns : List Int} {x : Int} {t : Tok} {b : Bool}
    (X : (hd.heap_39 w.params).In s.heap) (T : TopRead p loose mg mb s.heap) (hA : A.handled = none) (hd : A.depth + 10 < recursionLimit) (hu : A.units + 40 < cLine)
    (R : RowAt s.heap r ns) (hz : ns.length ≤ 100) : GivesV (model prog w) A s (call (.ref 382) [.ref r, .int x t, .bool b]) (fun u => .int (mny b ns x) u) := by
  intro Q E hQ
  refine wpAny_call ?_
  walk_at "m_enterC"
  intro L' h₁ tk cells F N Y hab hDL
  k_cells Y
  k_steps
  refine ⟨anyComp (h₀ := s.heap) (fun v => match v with | .int a _ => a == x | _ => false) (fun v y => y = v) rfl (by decide) rfl (by decide) rfl ?_⟩
  k_steps
  obtain ⟨vs, ht, hi⟩ := R.keep F.keep
  refine ⟨⟨_, _, _, _, F, N, src_tuple (by walk_at "m_hand") ht, by rw [hi.length]; omega, ?_, ?_, ?_⟩⟩
  · intro C i v s₃ m₃ E' hvi hm Fc Nc
    obtain ⟨a, u, rfl⟩ : ∃ a u, v = .int a u := by
      have hlt : i < ns.length := by rw [← hi.length]; exact (List.getElem?_eq_some_iff.mp hvi).1
      obtain ⟨u, e⟩ := hi.get i ns[i] (List.getElem?_eq_getElem hlt)
      rw [hvi] at e
      exact ⟨_, _, Option.some.inj e⟩
    have hn := Fc.ns
    have X3 := X.keeps Fc.keep
    have T3 := T.keeps Fc.keep
    have hcell := Nc.get (.head _)
    k_steps
    exact ⟨_, _, rfl, fun _ _ e => e⟩
  · intro C i v s₃ m₃ E' hvi hp hm Fc Nc
    have hn := Fc.ns
    k_steps
    exact ⟨_, _, rfl, fun _ _ e => e⟩
  · intro D h' tk' ts vs' e hD F2 N2 hlen hvs hP hkD
    replace F2 : Fr s.heap L' h' _ := F2
    replace N2 : News s.heap L' h' _ := N2
    have hcount : ts.length = ns.count x := by
      have e : vs' = vs := by
        refine List.ext_getElem? fun j => ?_
        cases hj : vs'[j]? with
        | some v => exact (hvs j v hj).symm
        | none =>
          have : vs'.length ≤ j := by simpa using hj
          rw [hlen] at this
          rw [List.getElem?_eq_none this]
      subst e
      rw [paired_len hP]
      exact count_ints x hi
    clear F N
    k_steps
    have hz2 : ns.count x ≤ ns.length := List.count_le_length
    refine call_len_list (items := ts.toArray) ⟨_, N2.get (.head _), rfl, e, rfl⟩ (by rw [List.size_toArray]; omega) ?_
    rw [show ((ts.toArray.size : Nat) : Int) = ((ns.count x : Nat) : Int) by rw [List.size_toArray, hcount]]
    cases b
    · k_steps
      (with_reducible rename Fr _ _ _ _ => Fx)
      exact hQ _ _ _ Fx.keep
    · k_steps
      (with_reducible rename Fr _ _ _ _ => Fx)
      rename_i h9 tk9 u9 k9
      exact hQ _ _ _ fun b o q => k9 b o (Fx.keep b o q)

end

section
open PySem PySem.W PySem.Calls PyProof.Rows
set_option maxHeartbeats 4000000
/-- a turn has come to its end -/
def TurnEnd (h₀ : Heap) (L : Addr) (J : (Str → Option Value) → List (Addr × Obj) → Prop) (it : Addr × Obj) (s₁ : Shared) (fl : Flow) (s₂ : Shared) : Prop :=
  fl = .next ∧ ∃ h' tk m' news' nx, s₂ = { s₁ with heap := h', toks := tk } ∧ Fr h₀ L h' m' ∧ News h₀ L h' news' ∧ (∀ p ∈ nx, p ∈ news') ∧ it ∈ news' ∧ (∀ p ∈ nx, @Ne Nat p.1 it.1) ∧ J m' nx
section
variable {prog : Program} {w : World} {A : Around} {E : Value → Shared → Prop} {s : Shared} {env : Env} {h₀ : Heap} {target : Expr} {body : List Stmt} {Q : Flow → Shared → Prop}
/-- a loop over a made list, by what holds between its turns -/
theorem turns_led {l : Addr} {lo : Obj} {vs : List Value} {n : Nat} {m₀ : Str → Option Value} {news : List (Addr × Obj)} (J : Nat → (Str → Option Value) → List (Addr × Obj) → Prop)
    (hh : A.handled = none) (F : Fr h₀ env.locals s.heap m₀) (N : News h₀ env.locals s.heap news) (hm : (l, lo) ∈ news) (hc : lo.cls = .type "list") (hd : lo.data = .seq vs.toArray n) (hj : J 0 m₀ news) (hl : ∀ i m nx, J i m nx → (l, lo) ∈ nx)
    (turn : ∀ i v m₁ nx h tk it, vs[i]? = some v → J i m₁ nx → (∀ p ∈ nx, @Ne Nat p.1 it.1) → Fr h₀ env.locals h m₁ → News h₀ env.locals h (nx ++ [it]) →
      wpAny (model prog w) A (assign target env v) (fun _ s₃ => wpAny (model prog w) A (execs body env) (TurnEnd h₀ env.locals (J (i + 1)) it { s with heap := h, toks := tk }) E s₃) E { s with heap := h, toks := tk })
    (done : ∀ m₁ nx h tk, J vs.length m₁ nx → Fr h₀ env.locals h m₁ → News h₀ env.locals h nx → Q .next { s with heap := h, toks := tk }) :
    wpAny (model prog w) A (pyIter (.ref l)) (fun it s₂ => TurnsAt prog w A h₀ env target body Q E it s₂) E s := by
  have hax := N _ hm
  have hls : s.heap.IsList l vs.toArray := ⟨lo, hax.1, hc, n, hd⟩
  have hlt : l < s.heap.objs.size := Heap.lt_size hax.1
  have hne : l ≠ s.heap.objs.size := Nat.ne_of_lt hlt
  refine wpAny_pyIter_list hls ?_
  refine ⟨s.heap.objs.size, [s.heap.objs.size, l], [s.heap.objs.size], vs.toArray.size, _, _, _, m₀, news, J, rfl,
    KTurns.ofWalks (Walks.list hh s.heap.objs.size l hne vs.toArray) fun i v s Q E st q => letGo_listiter st.1 q, ?_, ?_, ?_, ?_, F.push _, (fun p hp => ⟨Heap.get?_push_of_some _ (N p hp).1, (N p hp).2⟩), hj, ?_, ?_⟩
  · intro hI
    rcases List.mem_cons.mp hI with e | hI
    · exact absurd F.ns.lt (e ▸ Nat.lt_irrefl _)
    · exact hax.2.1 (List.mem_singleton.mp hI).symm
  · intro b hb
    rw [List.mem_singleton.mp hb]
    exact next_is_new F
  · intro p hp hI
    exact absurd (Heap.lt_size (N p hp).1) ((List.mem_singleton.mp hI) ▸ Nat.lt_irrefl _)
  · exact ⟨⟨_, Heap.get?_push_size _ rfl, rfl, rfl⟩, hls.at fun o e => Heap.get?_push_of_some _ e⟩
  · rintro i v m₁ nx h₁ tk₁ own hin hP hJ hoff hown hget hall hst F₁ N₁
    obtain ⟨io, hio, _, _⟩ := hst.1
    have hI0 : h₀.get? s.heap.objs.size = none := next_is_new F
    have hmem := hall s.heap.objs.size (List.mem_cons_self ..) hI0 io hio
    have Nit : News h₀ env.locals h₁ (nx ++ [(s.heap.objs.size, io)]) := fun p hp => by
      rcases List.mem_append.mp hp with hp | hp
      · exact N₁ _ (List.mem_append_right _ hp)
      · rw [List.mem_singleton.mp hp]; exact N₁ _ (List.mem_append_left _ hmem)
    have hne2 : ∀ p ∈ nx, @Ne Nat p.1 s.heap.objs.size := by
      intro p hp e
      exact hoff p hp (by rw [show p.1 = s.heap.objs.size from e]; exact List.mem_cons_self ..)
    refine wpAny_mono (turn i v m₁ nx h₁ tk₁ (s.heap.objs.size, io) (by simpa using hP) hJ hne2 F₁ Nit) (fun _ s₂ h₂ => wpAny_mono h₂ (fun f s₃ p => ?_) fun _ _ e => e) fun _ _ e => e
    obtain ⟨rfl, h', tk, m', news', nx', rfl, F', N', hn, ho, ha, hJ'⟩ := p
    refine .next ⟨rfl, h', tk, m', nx', rfl, F', ?_, ?_, hJ'⟩
    · rintro ⟨pa, po⟩ hp
      rcases List.mem_append.mp hp with hp | hp
      · have h2 : h₁.get? pa = some po := hget _ hp
        rcases List.mem_cons.mp (hown _ hp) with h3 | h3
        · have e : pa = s.heap.objs.size := h3
          subst e
          have : io = po := Option.some.inj (hio.symm.trans h2)
          subst this
          exact N' _ ho
        · have e : pa = l := List.mem_singleton.mp h3
          subst e
          have h4 : h₁.get? pa = some lo := (N₁ _ (List.mem_append_right _ (hl _ _ _ hJ))).1
          have : lo = po := Option.some.inj (h4.symm.trans h2)
          subst this
          exact N' _ (hn _ (hl _ _ _ hJ'))
      · exact N' _ (hn _ hp)
    · intro p hp hI
      exact ha p hp (List.mem_singleton.mp hI)
  · rintro h' tk m' nx F' N' _ hJ
    exact done m' nx h' tk (by simpa using hJ) F' N'
end

end

section
local macro_rules | `(tactic| walk_at "pad") => `(tactic| fail)
open PySem PySem.W PySem.Calls PyProof.Rows
set_option maxHeartbeats 4000000
theorem gentoks12 {α : Type} {M : Model} {A : Around} {E : Value → Shared → Prop} {t : Sem α} {Q : α → Shared → Prop} {s0 s1 s2 s4 : _} {X : Nat} (hn : 12 ≤ X) (h : ∀ tk, 12 ≤ tk → wpAny M A t Q E (Shared.mk s0 s1 s2 tk s4)) : wpAny M A t Q E (Shared.mk s0 s1 s2 X s4) := h X hn
theorem one_stmtT (n : Nat) {M : Model} {A : Around} {E : Value → Shared → Prop} {s : Shared} {st : Stmt} {rest : List Stmt} {env : Env} {Q : Flow → Shared → Prop} (hn : n ≤ s.toks)
    (h : wpAny M A (exec st env) (fun fl s' => Next fl (n ≤ s'.toks → wpAny M A (execs rest env) Q E s')) E s) : wpAny M A (execs (st :: rest) env) Q E s :=
  wpAny_execs_cons (wpAny_mono (wpAny_toks_of hn h) (fun fl s' h' => by obtain ⟨hk, rfl, h'⟩ := h'; exact h' hk) fun _ _ e => e.2)
theorem fr_as {h₀ h : Heap} {L : Addr} {m : Str → Option Value} {x : Str} {v : Value} (F : Fr h₀ L h m) (hv : m x = some v) : Fr h₀ L h (fun y => if y = x then some v else m y) := by
  have e : (fun y => if y = x then some v else m y) = m := by
    funext y
    by_cases q : y = x
    · rw [if_pos q, q, hv]
    · rw [if_neg q]
  rw [e]; exact F
theorem fr_as2 {h₀ h : Heap} {L : Addr} {m : Str → Option Value} {x y : Str} {v v' : Value} (F : Fr h₀ L h m) (hv : m x = some v) (hv' : m y = some v') : Fr h₀ L h (fun z => if z = y then some v' else if z = x then some v else m z) := by
  refine fr_as (fr_as F hv) ?_
  show (if y = x then some v else m y) = some v'
  split
  · rename_i q; rw [← hv', q, hv]
  · exact hv'
theorem seg_rows2 {prog : Program} {w : World} {A : Around} {p : Program} {loose : List Str} {mg mb : Str → Option Value} {bm : Addr} {ob : Obj} {s : Shared} {h₀ : Heap} {L : Addr} {Q : Flow → Shared → Prop} {u : Str → Option Value} {tc : Tok} {D H a1 a2 : Addr} {vs1 vs2 : List Value} {n1 n2 : List Int} {e0 eH e1 e2 : Nat} {b : Bool} {z1 z2 : Int} {w1 w2 : Tok} {o1 o2 o3 o4 o5 o6 o7 o8 : Obj} {v3 v4 v5 v6 v7 v8 : Option Value}
    (X : (hd.heap_39 w.params).In h₀) (T : TopRead p loose mg mb h₀) (hA : A.handled = none) (hd : A.depth + 90 < recursionLimit) (hu : A.units + 500 < cLine)
    (F : Fr h₀ L s.heap (fun y => if y = "count" then some (.int 2 tc) else if y = "drawn" then some (.ref D) else u y))
    (N : News h₀ L s.heap [(D, PySem.W.listOf (List.toArray [.ref a1, .ref a2]) e0), (a1, PySem.W.listOf vs1.toArray e1), (a2, PySem.W.listOf vs2.toArray e2), (H, PySem.W.listOf (List.toArray [.int z1 w1, .int z2 w2]) eH), (L + 1, o1), (L + 1 + 1, o2), (L + 1 + 1 + 1, o3), (L + 1 + 1 + 1 + 1, o4), (L + 1 + 1 + 1 + 1 + 1, o5), (L + 1 + 1 + 1 + 1 + 1 + 1, o6), (L + 1 + 1 + 1 + 1 + 1 + 1 + 1, o7), (L + 1 + 1 + 1 + 1 + 1 + 1 + 1 + 1, o8)])
    (oH : (@LT.lt Nat _ H (L + 1) ∨ @LT.lt Nat _ (L + 8) H))
    (d1 : o1.data = .cell (some (.bool b))) (d2 : o2.data = .cell (some (.ref H))) (d3 : o3.data = .cell v3) (d4 : o4.data = .cell v4) (d5 : o5.data = .cell v5) (d6 : o6.data = .cell v6) (d7 : o7.data = .cell v7) (d8 : o8.data = .cell v8)
    (I1 : IntsAre vs1 n1) (hz1 : n1.length ≤ 100) (I2 : IntsAre vs2 n2) (hz2 : n2.length ≤ 100)
    (ht : 12 ≤ s.toks)
    (next : ∀ (h' : Heap) (tk : Nat) (u' : Str → Option Value) (R r1 r2 : Addr) (eR f1 f2 : Nat) (o5' : Obj), Fr h₀ L h' (fun y => if y = "count" then some (.int 2 tc) else u' y) → News h₀ L h' [(R, PySem.W.listOf (List.toArray [.ref r1, .ref r2]) eR), (r1, ({ cls := .type "tuple", data := .seq vs1.toArray f1 } : Obj)), (r2, ({ cls := .type "tuple", data := .seq vs2.toArray f2 } : Obj)), (H, PySem.W.listOf (List.toArray [.int z1 w1, .int z2 w2]) eH), (L + 1, o1), (L + 1 + 1, o2), (L + 1 + 1 + 1, o3), (L + 1 + 1 + 1 + 1, o4), (L + 1 + 1 + 1 + 1 + 1, o5'), (L + 1 + 1 + 1 + 1 + 1 + 1, o6), (L + 1 + 1 + 1 + 1 + 1 + 1 + 1, o7), (L + 1 + 1 + 1 + 1 + 1 + 1 + 1 + 1, o8)] → (@LT.lt Nat _ R (L + 1) ∨ @LT.lt Nat _ (L + 8) R) → (@LT.lt Nat _ r1 (L + 1) ∨ @LT.lt Nat _ (L + 8) r1) → (@LT.lt Nat _ r2 (L + 1) ∨ @LT.lt Nat _ (L + 8) r2) → (@LT.lt Nat _ H (L + 1) ∨ @LT.lt Nat _ (L + 8) H) → o5'.data = .cell (some (.ref R)) → 12 ≤ tk →
      wpAny (model prog w) A (execs (lawIs w 7) (lawEnv w L)) Q noE { s with heap := h', toks := tk }) :
    Hold (wpAny (model prog w) A (execs (lawIs w 6) (lawEnv w L)) Q noE s) := by
  refine ⟨?_⟩
  conv =>
    arg 3
    arg 1
    whnf
  conv =>
    arg 3
    arg 2
    whnf
  change wpAny _ _ (execs _ (envOfC (PySem.Str.ofString "law") _ L 387 (.ref 386))) _ _ _
  refine one_stmtT 12 ht ?_
  k_steps
  (with_reducible rename Fr _ _ _ _ => Fz)
  (with_reducible rename News _ _ _ _ => Nz)
  have z1' := I1.length
  have z2' := I2.length
  refine ⟨⟨D, [.ref a1, .ref a2], fun i o => ∃ e, o = { cls := .type "tuple", data := .seq (if i = 0 then vs1 else vs2).toArray e }, rfl, ⟨_, Nz.get (.head _), rfl, e0, rfl⟩, by simp, ?_, ?_⟩⟩
  · intro C i v s₃ m₃ E' hvi hn hm hk
    have X3 := (X.keeps Fz.keep).keeps hk
    have T3 := (T.keeps Fz.keep).keeps hk
    rcases i with _ | _ | i
    · cases hvi
      k_steps
      refine ⟨call_tuple_list (items := vs1.toArray) ⟨_, hk _ _ (Nz.get (.tail _ (.head _))), rfl, _, rfl⟩ (fun h' hk' => ?_) (by rw [List.size_toArray, sizeLine_eq]; omega)⟩
      refine ⟨⟨_, rfl, _, ?_, Heap.get?_push_size _ rfl, 0, rfl⟩, _, _, rfl, fun b o e => Heap.get?_push_of_some _ (hk' _ _ e)⟩
      exact get_none hk' (Heap.get?_none_of_le (Nat.le_refl _))
    · cases hvi
      k_steps
      refine ⟨call_tuple_list (items := vs2.toArray) ⟨_, hk _ _ (Nz.get (.tail _ (.tail _ (.head _)))), rfl, _, rfl⟩ (fun h' hk' => ?_) (by rw [List.size_toArray, sizeLine_eq]; omega)⟩
      refine ⟨⟨_, rfl, _, ?_, Heap.get?_push_size _ rfl, 0, rfl⟩, _, _, rfl, fun b o e => Heap.get?_push_of_some _ (hk' _ _ e)⟩
      exact get_none hk' (Heap.get?_none_of_le (Nat.le_refl _))
    · cases hvi
  · intro R h' tk ts hR hL hlen hts hk
    obtain ⟨r1, r2, rfl⟩ : ∃ r1 r2, ts = [r1, r2] := by
      rcases ts with _ | ⟨r1, _ | ⟨r2, _ | ⟨r3, ts⟩⟩⟩ <;> simp at hlen
      exact ⟨r1, r2, rfl⟩
    obtain ⟨_, q1, p1, g1, rfl⟩ := hts 0 r1 rfl
    obtain ⟨_, q2, p2, g2, rfl⟩ := hts 1 r2 rfl
    obtain ⟨eR, hlo⟩ := hL
    have F2 := fr_grow Fz hk
    have N2 := news_add Fz (news_add Fz (news_add Fz (news_grow Nz hk) q2 p2) q1 p1) hR hlo
    have oR := off_cells8 Nz hR (by k_mem) (by k_mem) (by k_mem) (by k_mem) (by k_mem) (by k_mem) (by k_mem) (by k_mem)
    have or1 := off_cells8 Nz q1 (by k_mem) (by k_mem) (by k_mem) (by k_mem) (by k_mem) (by k_mem) (by k_mem) (by k_mem)
    have or2 := off_cells8 Nz q2 (by k_mem) (by k_mem) (by k_mem) (by k_mem) (by k_mem) (by k_mem) (by k_mem) (by k_mem)
    clear Fz Nz
    simp only [if_true, if_neg (show ¬ (1 : Nat) = 0 by decide)] at N2
    have N3 : News h₀ L h' [(R, _), (r1, _), (r2, _), (H, _), (L + 1, o1), (L + 1 + 1, o2), (L + 1 + 1 + 1, o3), (L + 1 + 1 + 1 + 1, o4), (L + 1 + 1 + 1 + 1 + 1, o5), (L + 1 + 1 + 1 + 1 + 1 + 1, o6), (L + 1 + 1 + 1 + 1 + 1 + 1 + 1, o7), (L + 1 + 1 + 1 + 1 + 1 + 1 + 1 + 1, o8)] :=
      news_pick N2 ⟨by k_mem, by k_mem, by k_mem, by k_mem, by k_mem, by k_mem, by k_mem, by k_mem, by k_mem, by k_mem, by k_mem, by k_mem, trivial⟩
    clear N2
    k_steps
    (with_reducible rename Fr _ _ _ _ => Fx)
    (with_reducible rename News _ _ _ _ => Nx)
    refine ⟨rfl, fun ht => ?_⟩
    exact @next _ _ _ R r1 r2 eR g1 g2 _ (fr_as (v := .int 2 tc) Fx rfl) Nx oR or1 or2 oH (by assumption) ht
theorem seg_rows3 {prog : Program} {w : World} {A : Around} {p : Program} {loose : List Str} {mg mb : Str → Option Value} {bm : Addr} {ob : Obj} {s : Shared} {h₀ : Heap} {L : Addr} {Q : Flow → Shared → Prop} {u : Str → Option Value} {tc : Tok} {D H a1 a2 a3 : Addr} {vs1 vs2 vs3 : List Value} {n1 n2 n3 : List Int} {e0 eH e1 e2 e3 : Nat} {b : Bool} {z1 z2 z3 : Int} {w1 w2 w3 : Tok} {o1 o2 o3 o4 o5 o6 o7 o8 : Obj} {v3 v4 v5 v6 v7 v8 : Option Value}
    (X : (hd.heap_39 w.params).In h₀) (T : TopRead p loose mg mb h₀) (hA : A.handled = none) (hd : A.depth + 90 < recursionLimit) (hu : A.units + 500 < cLine)
    (F : Fr h₀ L s.heap (fun y => if y = "count" then some (.int 3 tc) else if y = "drawn" then some (.ref D) else u y))
    (N : News h₀ L s.heap [(D, PySem.W.listOf (List.toArray [.ref a1, .ref a2, .ref a3]) e0), (a1, PySem.W.listOf vs1.toArray e1), (a2, PySem.W.listOf vs2.toArray e2), (a3, PySem.W.listOf vs3.toArray e3), (H, PySem.W.listOf (List.toArray [.int z1 w1, .int z2 w2, .int z3 w3]) eH), (L + 1, o1), (L + 1 + 1, o2), (L + 1 + 1 + 1, o3), (L + 1 + 1 + 1 + 1, o4), (L + 1 + 1 + 1 + 1 + 1, o5), (L + 1 + 1 + 1 + 1 + 1 + 1, o6), (L + 1 + 1 + 1 + 1 + 1 + 1 + 1, o7), (L + 1 + 1 + 1 + 1 + 1 + 1 + 1 + 1, o8)])
    (oH : (@LT.lt Nat _ H (L + 1) ∨ @LT.lt Nat _ (L + 8) H))
    (d1 : o1.data = .cell (some (.bool b))) (d2 : o2.data = .cell (some (.ref H))) (d3 : o3.data = .cell v3) (d4 : o4.data = .cell v4) (d5 : o5.data = .cell v5) (d6 : o6.data = .cell v6) (d7 : o7.data = .cell v7) (d8 : o8.data = .cell v8)
    (I1 : IntsAre vs1 n1) (hz1 : n1.length ≤ 100) (I2 : IntsAre vs2 n2) (hz2 : n2.length ≤ 100) (I3 : IntsAre vs3 n3) (hz3 : n3.length ≤ 100)
    (ht : 12 ≤ s.toks)
    (next : ∀ (h' : Heap) (tk : Nat) (u' : Str → Option Value) (R r1 r2 r3 : Addr) (eR f1 f2 f3 : Nat) (o5' : Obj), Fr h₀ L h' (fun y => if y = "count" then some (.int 3 tc) else u' y) → News h₀ L h' [(R, PySem.W.listOf (List.toArray [.ref r1, .ref r2, .ref r3]) eR), (r1, ({ cls := .type "tuple", data := .seq vs1.toArray f1 } : Obj)), (r2, ({ cls := .type "tuple", data := .seq vs2.toArray f2 } : Obj)), (r3, ({ cls := .type "tuple", data := .seq vs3.toArray f3 } : Obj)), (H, PySem.W.listOf (List.toArray [.int z1 w1, .int z2 w2, .int z3 w3]) eH), (L + 1, o1), (L + 1 + 1, o2), (L + 1 + 1 + 1, o3), (L + 1 + 1 + 1 + 1, o4), (L + 1 + 1 + 1 + 1 + 1, o5'), (L + 1 + 1 + 1 + 1 + 1 + 1, o6), (L + 1 + 1 + 1 + 1 + 1 + 1 + 1, o7), (L + 1 + 1 + 1 + 1 + 1 + 1 + 1 + 1, o8)] → (@LT.lt Nat _ R (L + 1) ∨ @LT.lt Nat _ (L + 8) R) → (@LT.lt Nat _ r1 (L + 1) ∨ @LT.lt Nat _ (L + 8) r1) → (@LT.lt Nat _ r2 (L + 1) ∨ @LT.lt Nat _ (L + 8) r2) → (@LT.lt Nat _ r3 (L + 1) ∨ @LT.lt Nat _ (L + 8) r3) → (@LT.lt Nat _ H (L + 1) ∨ @LT.lt Nat _ (L + 8) H) → o5'.data = .cell (some (.ref R)) → 12 ≤ tk →
      wpAny (model prog w) A (execs (lawIs w 7) (lawEnv w L)) Q noE { s with heap := h', toks := tk }) :
    Hold (wpAny (model prog w) A (execs (lawIs w 6) (lawEnv w L)) Q noE s) := by
  refine ⟨?_⟩
  conv =>
    arg 3
    arg 1
    whnf
  conv =>
    arg 3
    arg 2
    whnf
  change wpAny _ _ (execs _ (envOfC (PySem.Str.ofString "law") _ L 387 (.ref 386))) _ _ _
  refine one_stmtT 12 ht ?_
  k_steps
  (with_reducible rename Fr _ _ _ _ => Fz)
  (with_reducible rename News _ _ _ _ => Nz)
  have z1' := I1.length
  have z2' := I2.length
  have z3' := I3.length
  refine ⟨⟨D, [.ref a1, .ref a2, .ref a3], fun i o => ∃ e, o = { cls := .type "tuple", data := .seq (if i = 0 then vs1 else if i = 1 then vs2 else vs3).toArray e }, rfl, ⟨_, Nz.get (.head _), rfl, e0, rfl⟩, by simp, ?_, ?_⟩⟩
  · intro C i v s₃ m₃ E' hvi hn hm hk
    have X3 := (X.keeps Fz.keep).keeps hk
    have T3 := (T.keeps Fz.keep).keeps hk
    rcases i with _ | _ | _ | i
    · cases hvi
      k_steps
      refine ⟨call_tuple_list (items := vs1.toArray) ⟨_, hk _ _ (Nz.get (.tail _ (.head _))), rfl, _, rfl⟩ (fun h' hk' => ?_) (by rw [List.size_toArray, sizeLine_eq]; omega)⟩
      refine ⟨⟨_, rfl, _, ?_, Heap.get?_push_size _ rfl, 0, rfl⟩, _, _, rfl, fun b o e => Heap.get?_push_of_some _ (hk' _ _ e)⟩
      exact get_none hk' (Heap.get?_none_of_le (Nat.le_refl _))
    · cases hvi
      k_steps
      refine ⟨call_tuple_list (items := vs2.toArray) ⟨_, hk _ _ (Nz.get (.tail _ (.tail _ (.head _)))), rfl, _, rfl⟩ (fun h' hk' => ?_) (by rw [List.size_toArray, sizeLine_eq]; omega)⟩
      refine ⟨⟨_, rfl, _, ?_, Heap.get?_push_size _ rfl, 0, rfl⟩, _, _, rfl, fun b o e => Heap.get?_push_of_some _ (hk' _ _ e)⟩
      exact get_none hk' (Heap.get?_none_of_le (Nat.le_refl _))
    · cases hvi
      k_steps
      refine ⟨call_tuple_list (items := vs3.toArray) ⟨_, hk _ _ (Nz.get (.tail _ (.tail _ (.tail _ (.head _))))), rfl, _, rfl⟩ (fun h' hk' => ?_) (by rw [List.size_toArray, sizeLine_eq]; omega)⟩
      refine ⟨⟨_, rfl, _, ?_, Heap.get?_push_size _ rfl, 0, rfl⟩, _, _, rfl, fun b o e => Heap.get?_push_of_some _ (hk' _ _ e)⟩
      exact get_none hk' (Heap.get?_none_of_le (Nat.le_refl _))
    · cases hvi
  · intro R h' tk ts hR hL hlen hts hk
    obtain ⟨r1, r2, r3, rfl⟩ : ∃ r1 r2 r3, ts = [r1, r2, r3] := by
      rcases ts with _ | ⟨r1, _ | ⟨r2, _ | ⟨r3, _ | ⟨r4, ts⟩⟩⟩⟩ <;> simp at hlen
      exact ⟨r1, r2, r3, rfl⟩
    obtain ⟨_, q1, p1, g1, rfl⟩ := hts 0 r1 rfl
    obtain ⟨_, q2, p2, g2, rfl⟩ := hts 1 r2 rfl
    obtain ⟨_, q3, p3, g3, rfl⟩ := hts 2 r3 rfl
    obtain ⟨eR, hlo⟩ := hL
    have F2 := fr_grow Fz hk
    have N2 := news_add Fz (news_add Fz (news_add Fz (news_add Fz (news_grow Nz hk) q3 p3) q2 p2) q1 p1) hR hlo
    have oR := off_cells8 Nz hR (by k_mem) (by k_mem) (by k_mem) (by k_mem) (by k_mem) (by k_mem) (by k_mem) (by k_mem)
    have or1 := off_cells8 Nz q1 (by k_mem) (by k_mem) (by k_mem) (by k_mem) (by k_mem) (by k_mem) (by k_mem) (by k_mem)
    have or2 := off_cells8 Nz q2 (by k_mem) (by k_mem) (by k_mem) (by k_mem) (by k_mem) (by k_mem) (by k_mem) (by k_mem)
    have or3 := off_cells8 Nz q3 (by k_mem) (by k_mem) (by k_mem) (by k_mem) (by k_mem) (by k_mem) (by k_mem) (by k_mem)
    clear Fz Nz
    simp only [if_true, if_neg (show ¬ (1 : Nat) = 0 by decide), if_neg (show ¬ (2 : Nat) = 0 by decide), if_neg (show ¬ (2 : Nat) = 1 by decide)] at N2
    have N3 : News h₀ L h' [(R, _), (r1, _), (r2, _), (r3, _), (H, _), (L + 1, o1), (L + 1 + 1, o2), (L + 1 + 1 + 1, o3), (L + 1 + 1 + 1 + 1, o4), (L + 1 + 1 + 1 + 1 + 1, o5), (L + 1 + 1 + 1 + 1 + 1 + 1, o6), (L + 1 + 1 + 1 + 1 + 1 + 1 + 1, o7), (L + 1 + 1 + 1 + 1 + 1 + 1 + 1 + 1, o8)] :=
      news_pick N2 ⟨by k_mem, by k_mem, by k_mem, by k_mem, by k_mem, by k_mem, by k_mem, by k_mem, by k_mem, by k_mem, by k_mem, by k_mem, by k_mem, trivial⟩
    clear N2
    k_steps
    (with_reducible rename Fr _ _ _ _ => Fx)
    (with_reducible rename News _ _ _ _ => Nx)
    refine ⟨rfl, fun ht => ?_⟩
    exact @next _ _ _ R r1 r2 r3 eR g1 g2 g3 _ (fr_as (v := .int 3 tc) Fx rfl) Nx oR or1 or2 or3 oH (by assumption) ht

end

section
open PySem PySem.W PySem.Calls PyProof.Rows
set_option maxHeartbeats 4000000
theorem seg_h0 {prog : Program} {w : World} {A : Around} {p : Program} {loose : List Str} {mg mb : Str → Option Value} {bm : Addr} {ob : Obj} {s : Shared} {h₀ : Heap} {L : Addr} {Q : Flow → Shared → Prop} {u : Str → Option Value} {l : Addr} {vs : List Value} {ns : List Int} {o1 o2 o3 o4 o5 o6 o7 o8 : Obj}
    (X : (hd.heap_39 w.params).In h₀) (T : TopRead p loose mg mb h₀) (hA : A.handled = none) (hd : A.depth + 90 < recursionLimit) (hu : A.units + 500 < cLine)
    (HL : h₀.IsList l vs.toArray) (HI : IntsAre vs ns) (hn : ns.length ≤ 63)
    (F : Fr h₀ L s.heap (fun y => if y = "script" then some (.ref l) else u y))
    (N : News h₀ L s.heap [(L + 1, o1), (L + 1 + 1, o2), (L + 1 + 1 + 1, o3), (L + 1 + 1 + 1 + 1, o4), (L + 1 + 1 + 1 + 1 + 1, o5), (L + 1 + 1 + 1 + 1 + 1 + 1, o6), (L + 1 + 1 + 1 + 1 + 1 + 1 + 1, o7), (L + 1 + 1 + 1 + 1 + 1 + 1 + 1 + 1, o8)])
    (next : ∀ (h' : Heap) (tk : Nat) (th : Tok), Fr h₀ L h' (fun y => if y = "head" then some (.int (ns.getD 0 0) th) else if y = "script" then some (.ref l) else u y) → News h₀ L h' [(L + 1, o1), (L + 1 + 1, o2), (L + 1 + 1 + 1, o3), (L + 1 + 1 + 1 + 1, o4), (L + 1 + 1 + 1 + 1 + 1, o5), (L + 1 + 1 + 1 + 1 + 1 + 1, o6), (L + 1 + 1 + 1 + 1 + 1 + 1 + 1, o7), (L + 1 + 1 + 1 + 1 + 1 + 1 + 1 + 1, o8)] →
      wpAny (model prog w) A (execs (lawIs w 1) (lawEnv w L)) Q noE { s with heap := h', toks := tk }) :
    Hold (wpAny (model prog w) A (execs (lawIs w 0) (lawEnv w L)) Q noE s) := by
  refine ⟨?_⟩
  conv =>
    arg 3
    arg 1
    whnf
  conv =>
    arg 3
    arg 2
    whnf
  change wpAny _ _ (execs _ (envOfC (PySem.Str.ofString "law") _ L 387 (.ref 386))) _ _ _
  refine one_stmt ?_
  k_steps
  all_goals ((with_reducible rename Fr _ _ _ _ => Fx); (with_reducible rename News _ _ _ _ => Nx); refine ⟨rfl, ?_⟩)
  · exact @next _ _ _ Fx Nx
  · have e : ns = [] := by first | assumption | (apply List.eq_nil_of_length_eq_zero; omega) | simp_all
    subst e
    exact @next _ _ _ Fx Nx

end

section
local macro_rules | `(tactic| walk_at "pad") => `(tactic| fail)
open PySem PySem.W PySem.Calls PyProof.Rows
set_option maxHeartbeats 4000000
theorem seg_h1_2 {prog : Program} {w : World} {A : Around} {p : Program} {loose : List Str} {mg mb : Str → Option Value} {bm : Addr} {ob : Obj} {s : Shared} {h₀ : Heap} {L : Addr} {Q : Flow → Shared → Prop} {u : Str → Option Value} {l : Addr} {vs : List Value} {ns : List Int} {hv : Int} {th : Tok} {o1 o2 o3 o4 o5 o6 o7 o8 : Obj} {v1 v2 v3 v4 v5 v6 v7 v8 : Option Value}
    (X : (hd.heap_39 w.params).In h₀) (T : TopRead p loose mg mb h₀) (hA : A.handled = none) (hd : A.depth + 90 < recursionLimit) (hu : A.units + 500 < cLine)
    (HL : h₀.IsList l vs.toArray) (HI : IntsAre vs ns) (hn : ns.length ≤ 63)
    (F : Fr h₀ L s.heap (fun y => if y = "head" then some (.int hv th) else if y = "script" then some (.ref l) else u y))
    (N : News h₀ L s.heap [(L + 1, o1), (L + 1 + 1, o2), (L + 1 + 1 + 1, o3), (L + 1 + 1 + 1 + 1, o4), (L + 1 + 1 + 1 + 1 + 1, o5), (L + 1 + 1 + 1 + 1 + 1 + 1, o6), (L + 1 + 1 + 1 + 1 + 1 + 1 + 1, o7), (L + 1 + 1 + 1 + 1 + 1 + 1 + 1 + 1, o8)])
    (d1 : o1.data = .cell v1) (d2 : o2.data = .cell v2) (d3 : o3.data = .cell v3) (d4 : o4.data = .cell v4) (d5 : o5.data = .cell v5) (d6 : o6.data = .cell v6) (d7 : o7.data = .cell v7) (d8 : o8.data = .cell v8)
    (hc : 2 + (hv.fdiv 2).fmod 2 = 2)
    (next : ∀ (h' : Heap) (tk : Nat) (tc : Tok) (b : Bool) (m : Str → Option Value) (D H a1 a2 : Addr) (w1 w2 : Tok) (p1 p2 : Obj), Fr h₀ L h' (fun y => if y = "count" then some (.int 2 tc) else if y = "drawn" then some (.ref D) else if y = "script" then some (.ref l) else m y) → News h₀ L h' [(D, PySem.W.listOf (List.toArray [.ref a1, .ref a2]) 0), (a1, PySem.W.listOf (List.toArray []) 0), (a2, PySem.W.listOf (List.toArray []) 0), (H, PySem.W.listOf (List.toArray [.int (1 + (hv.fdiv 4).fmod 5) w1, .int (1 + (hv.fdiv 20).fmod 5) w2]) 0), (L + 1, p1), (L + 1 + 1, p2), (L + 1 + 1 + 1, o3), (L + 1 + 1 + 1 + 1, o4), (L + 1 + 1 + 1 + 1 + 1, o5), (L + 1 + 1 + 1 + 1 + 1 + 1, o6), (L + 1 + 1 + 1 + 1 + 1 + 1 + 1, o7), (L + 1 + 1 + 1 + 1 + 1 + 1 + 1 + 1, o8)] → p1.data = .cell (some (.bool b)) → p2.data = .cell (some (.ref H)) → @LT.lt Nat _ (L + 8) H → @LT.lt Nat _ H a1 → @LT.lt Nat _ a1 a2 → @LT.lt Nat _ a2 D → 12 ≤ tk →
      wpAny (model prog w) A (execs (lawIs w 5) (lawEnv w L)) Q noE { s with heap := h', toks := tk }) :
    Hold (wpAny (model prog w) A (execs (lawIs w 1) (lawEnv w L)) Q noE s) := by
  refine ⟨?_⟩
  conv =>
    arg 3
    arg 1
    whnf
  conv =>
    arg 3
    arg 2
    whnf
  change wpAny _ _ (execs _ (envOfC (PySem.Str.ofString "law") _ L 387 (.ref 386))) _ _ _
  refine one_stmt ?_
  k_steps
  refine ⟨rfl, ?_⟩
  refine one_stmt ?_
  k_steps
  refine ⟨rfl, ?_⟩
  (with_reducible rename Fr _ _ _ _ => Fz)
  simp only [hc] at Fz
  refine one_stmt ?_
  k_steps
  refine ⟨rfl, ?_⟩
  refine one_stmtT 12 (by (try dsimp only); omega) ?_
  k_steps
  refine ⟨rfl, fun ht => ?_⟩
  (with_reducible rename Fr _ _ _ _ => Fx)
  (with_reducible rename News _ _ _ _ => Nx)
  refine @next _ _ _ ?bb _ _ _ _ _ _ _ _ _ (fr_as (x := ("count" : Str)) (fr_as (x := ("drawn" : Str)) (fr_as (x := ("script" : Str)) Fx rfl) rfl) rfl) (news_pick Nx ⟨by k_mem, by k_mem, by k_mem, by k_mem, by k_mem, by k_mem, by k_mem, by k_mem, by k_mem, by k_mem, by k_mem, by k_mem, trivial⟩) ?_ ?_ (by omega) (by omega) (by omega) (by omega) ht
  rotate_left
  · assumption
  · assumption
theorem seg_h1_3 {prog : Program} {w : World} {A : Around} {p : Program} {loose : List Str} {mg mb : Str → Option Value} {bm : Addr} {ob : Obj} {s : Shared} {h₀ : Heap} {L : Addr} {Q : Flow → Shared → Prop} {u : Str → Option Value} {l : Addr} {vs : List Value} {ns : List Int} {hv : Int} {th : Tok} {o1 o2 o3 o4 o5 o6 o7 o8 : Obj} {v1 v2 v3 v4 v5 v6 v7 v8 : Option Value}
    (X : (hd.heap_39 w.params).In h₀) (T : TopRead p loose mg mb h₀) (hA : A.handled = none) (hd : A.depth + 90 < recursionLimit) (hu : A.units + 500 < cLine)
    (HL : h₀.IsList l vs.toArray) (HI : IntsAre vs ns) (hn : ns.length ≤ 63)
    (F : Fr h₀ L s.heap (fun y => if y = "head" then some (.int hv th) else if y = "script" then some (.ref l) else u y))
    (N : News h₀ L s.heap [(L + 1, o1), (L + 1 + 1, o2), (L + 1 + 1 + 1, o3), (L + 1 + 1 + 1 + 1, o4), (L + 1 + 1 + 1 + 1 + 1, o5), (L + 1 + 1 + 1 + 1 + 1 + 1, o6), (L + 1 + 1 + 1 + 1 + 1 + 1 + 1, o7), (L + 1 + 1 + 1 + 1 + 1 + 1 + 1 + 1, o8)])
    (d1 : o1.data = .cell v1) (d2 : o2.data = .cell v2) (d3 : o3.data = .cell v3) (d4 : o4.data = .cell v4) (d5 : o5.data = .cell v5) (d6 : o6.data = .cell v6) (d7 : o7.data = .cell v7) (d8 : o8.data = .cell v8)
    (hc : 2 + (hv.fdiv 2).fmod 2 = 3)
    (next : ∀ (h' : Heap) (tk : Nat) (tc : Tok) (b : Bool) (m : Str → Option Value) (D H a1 a2 a3 : Addr) (w1 w2 w3 : Tok) (p1 p2 : Obj), Fr h₀ L h' (fun y => if y = "count" then some (.int 3 tc) else if y = "drawn" then some (.ref D) else if y = "script" then some (.ref l) else m y) → News h₀ L h' [(D, PySem.W.listOf (List.toArray [.ref a1, .ref a2, .ref a3]) 0), (a1, PySem.W.listOf (List.toArray []) 0), (a2, PySem.W.listOf (List.toArray []) 0), (a3, PySem.W.listOf (List.toArray []) 0), (H, PySem.W.listOf (List.toArray [.int (1 + (hv.fdiv 4).fmod 5) w1, .int (1 + (hv.fdiv 20).fmod 5) w2, .int (2) w3]) 0), (L + 1, p1), (L + 1 + 1, p2), (L + 1 + 1 + 1, o3), (L + 1 + 1 + 1 + 1, o4), (L + 1 + 1 + 1 + 1 + 1, o5), (L + 1 + 1 + 1 + 1 + 1 + 1, o6), (L + 1 + 1 + 1 + 1 + 1 + 1 + 1, o7), (L + 1 + 1 + 1 + 1 + 1 + 1 + 1 + 1, o8)] → p1.data = .cell (some (.bool b)) → p2.data = .cell (some (.ref H)) → @LT.lt Nat _ (L + 8) H → @LT.lt Nat _ H a1 → @LT.lt Nat _ a1 a2 → @LT.lt Nat _ a2 a3 → @LT.lt Nat _ a3 D → 12 ≤ tk →
      wpAny (model prog w) A (execs (lawIs w 5) (lawEnv w L)) Q noE { s with heap := h', toks := tk }) :
    Hold (wpAny (model prog w) A (execs (lawIs w 1) (lawEnv w L)) Q noE s) := by
  refine ⟨?_⟩
  conv =>
    arg 3
    arg 1
    whnf
  conv =>
    arg 3
    arg 2
    whnf
  change wpAny _ _ (execs _ (envOfC (PySem.Str.ofString "law") _ L 387 (.ref 386))) _ _ _
  refine one_stmt ?_
  k_steps
  refine ⟨rfl, ?_⟩
  refine one_stmt ?_
  k_steps
  refine ⟨rfl, ?_⟩
  (with_reducible rename Fr _ _ _ _ => Fz)
  simp only [hc] at Fz
  refine one_stmt ?_
  k_steps
  refine ⟨rfl, ?_⟩
  refine one_stmtT 12 (by (try dsimp only); omega) ?_
  k_steps
  refine ⟨rfl, fun ht => ?_⟩
  (with_reducible rename Fr _ _ _ _ => Fx)
  (with_reducible rename News _ _ _ _ => Nx)
  refine @next _ _ _ ?bb _ _ _ _ _ _ _ _ _ _ _ (fr_as (x := ("count" : Str)) (fr_as (x := ("drawn" : Str)) (fr_as (x := ("script" : Str)) Fx rfl) rfl) rfl) (news_pick Nx ⟨by k_mem, by k_mem, by k_mem, by k_mem, by k_mem, by k_mem, by k_mem, by k_mem, by k_mem, by k_mem, by k_mem, by k_mem, by k_mem, trivial⟩) ?_ ?_ (by omega) (by omega) (by omega) (by omega) (by omega) ht
  rotate_left
  · assumption
  · assumption

end

section
open PySem PySem.W PySem.Calls PyProof.Rows
set_option maxHeartbeats 4000000
local macro_rules | `(tactic| walk_at "callWith") => `(tactic| (k_here; (with_reducible show wpAny _ _ (callWith _ (Value.builtin "list.append") _ _ _) _ _ _); k_dflt (refine callWith_method1 ?_)))
theorem ints_end1 {vs : List Value} {ns : List Int} (I : IntsAre vs ns) (k : Int) (t : Tok) : IntsAre (vs ++ [.int k t]) (ns ++ [k]) := by
  induction I with
  | nil => exact .cons _ _ .nil
  | cons _ _ _ ih => exact .cons _ _ ih
local macro_rules | `(tactic| walk_at "subscriptTail Name BinOp ref int") => `(tactic| (k_here; (with_reducible show wpAny _ _ (subscriptTail _ _ (Value.ref _) (Value.int (Int.fmod _ _) _)) _ _ _); refine Hold.out ?_))
theorem seg_loop2 {prog : Program} {w : World} {A : Around} {p : Program} {loose : List Str} {mg mb : Str → Option Value} {bm : Addr} {ob : Obj} {s : Shared} {h₀ : Heap} {L : Addr} {Q : Flow → Shared → Prop} {u : Str → Option Value} {tc : Tok} {l D H a1 a2 : Addr} {vs : List Value} {ns : List Int} {eH : Nat} {z1 z2 : Int} {w1 w2 : Tok} {o1 o2 o3 o4 o5 o6 o7 o8 : Obj} {v3 : Option Value}
    (X : (hd.heap_39 w.params).In h₀) (T : TopRead p loose mg mb h₀) (hA : A.handled = none) (hd : A.depth + 90 < recursionLimit) (hu : A.units + 500 < cLine)
    (HL : h₀.IsList l vs.toArray) (HI : IntsAre vs ns) (hn : ns.length ≤ 63)
    (F : Fr h₀ L s.heap (fun y => if y = "count" then some (.int 2 tc) else if y = "drawn" then some (.ref D) else if y = "script" then some (.ref l) else u y))
    (N : News h₀ L s.heap [(D, PySem.W.listOf (List.toArray [.ref a1, .ref a2]) 0), (a1, PySem.W.listOf (List.toArray []) 0), (a2, PySem.W.listOf (List.toArray []) 0), (H, PySem.W.listOf (List.toArray [.int z1 w1, .int z2 w2]) eH), (L + 1, o1), (L + 1 + 1, o2), (L + 1 + 1 + 1, o3), (L + 1 + 1 + 1 + 1, o4), (L + 1 + 1 + 1 + 1 + 1, o5), (L + 1 + 1 + 1 + 1 + 1 + 1, o6), (L + 1 + 1 + 1 + 1 + 1 + 1 + 1, o7), (L + 1 + 1 + 1 + 1 + 1 + 1 + 1 + 1, o8)])
    (d3 : o3.data = .cell v3)
    (lH : @LT.lt Nat _ (L + 8) H) (lHa : @LT.lt Nat _ H a1) (la1 : @LT.lt Nat _ a1 a2) (laD : @LT.lt Nat _ a2 D) (ht : 12 ≤ s.toks)
    (next : ∀ (h' : Heap) (tk : Nat) (u' : Str → Option Value) (vs1 vs2 : List Value) (n1 n2 : List Int) (e1 e2 : Nat) (p3 : Obj), Fr h₀ L h' (fun y => if y = "count" then some (.int 2 tc) else if y = "drawn" then some (.ref D) else u' y) → News h₀ L h' [(D, PySem.W.listOf (List.toArray [.ref a1, .ref a2]) 0), (a1, PySem.W.listOf vs1.toArray e1), (a2, PySem.W.listOf vs2.toArray e2), (H, PySem.W.listOf (List.toArray [.int z1 w1, .int z2 w2]) eH), (L + 1, o1), (L + 1 + 1, o2), (L + 1 + 1 + 1, p3), (L + 1 + 1 + 1 + 1, o4), (L + 1 + 1 + 1 + 1 + 1, o5), (L + 1 + 1 + 1 + 1 + 1 + 1, o6), (L + 1 + 1 + 1 + 1 + 1 + 1 + 1, o7), (L + 1 + 1 + 1 + 1 + 1 + 1 + 1 + 1, o8)] → (∃ v, p3.data = .cell v) → IntsAre vs1 n1 → IntsAre vs2 n2 → n1.length + n2.length ≤ 16 → 12 ≤ tk →
      wpAny (model prog w) A (execs (lawIs w 6) (lawEnv w L)) Q noE { s with heap := h', toks := tk }) :
    Hold (wpAny (model prog w) A (execs (lawIs w 5) (lawEnv w L)) Q noE s) := by
  refine ⟨?_⟩
  conv =>
    arg 3
    arg 1
    whnf
  conv =>
    arg 3
    arg 2
    whnf
  change wpAny _ _ (execs _ (envOfC (PySem.Str.ofString "law") _ L 387 (.ref 386))) _ _ _
  refine one_stmtT 12 ht ?_
  refine For_turns F ?_ (hE := PassesOwn.never)
  refine wpAny_mono (Q := fun v s₁ => Hold (∃ (ls : Addr) (ws : List Value) (xs : List Int) (e : Nat) (h' : Heap) (tk : Nat), v = .ref ls ∧ s₁ = { s with heap := h', toks := tk } ∧ Fr h₀ L h' (fun y => if y = "count" then some (.int 2 tc) else if y = "drawn" then some (.ref D) else if y = "script" then some (.ref l) else u y) ∧ News h₀ L h' [(ls, PySem.W.listOf ws.toArray e), (D, PySem.W.listOf (List.toArray [.ref a1, .ref a2]) 0), (a1, PySem.W.listOf (List.toArray []) 0), (a2, PySem.W.listOf (List.toArray []) 0), (H, PySem.W.listOf (List.toArray [.int z1 w1, .int z2 w2]) eH), (L + 1, o1), (L + 1 + 1, o2), (L + 1 + 1 + 1, o3), (L + 1 + 1 + 1 + 1, o4), (L + 1 + 1 + 1 + 1 + 1, o5), (L + 1 + 1 + 1 + 1 + 1 + 1, o6), (L + 1 + 1 + 1 + 1 + 1 + 1 + 1, o7), (L + 1 + 1 + 1 + 1 + 1 + 1 + 1 + 1, o8)] ∧ IntsAre ws xs ∧ xs.length ≤ 16 ∧ @LT.lt Nat _ D ls)) ?_ (fun v s₁ hv => ?_) (fun _ _ e => e)
  · k_steps
    all_goals ((with_reducible rename Fr _ _ _ _ => Fx); (with_reducible rename News _ _ _ _ => Nx))
    · exact ⟨⟨_, _, _, _, _, _, rfl, rfl, Fx, news_pick Nx ⟨by k_mem, by k_mem, by k_mem, by k_mem, by k_mem, by k_mem, by k_mem, by k_mem, by k_mem, by k_mem, by k_mem, by k_mem, by k_mem, trivial⟩, by assumption, by omega, by omega⟩⟩
    · exact ⟨⟨_, _, [0, 0, 2, 1, 3, 3], _, _, _, rfl, rfl, Fx, news_pick Nx ⟨by k_mem, by k_mem, by k_mem, by k_mem, by k_mem, by k_mem, by k_mem, by k_mem, by k_mem, by k_mem, by k_mem, by k_mem, by k_mem, trivial⟩, .cons _ _ (.cons _ _ (.cons _ _ (.cons _ _ (.cons _ _ (.cons _ _ (.nil)))))), by decide, by omega⟩⟩
  · obtain ⟨ls, ws, xs, e, h', tk, rfl, rfl, Fz, Nz, Iw, hxl, lD⟩ := hv.out
    clear hv F N
    refine turns_led (vs := ws) (lo := PySem.W.listOf ws.toArray e) (n := e) (fun i m nx => ∃ (u' : Str → Option Value) (vs1 vs2 : List Value) (n1 n2 : List Int) (e1 e2 : Nat) (p3 : Obj), nx = [(ls, PySem.W.listOf ws.toArray e), (D, PySem.W.listOf (List.toArray [.ref a1, .ref a2]) 0), (a1, PySem.W.listOf vs1.toArray e1), (a2, PySem.W.listOf vs2.toArray e2), (H, PySem.W.listOf (List.toArray [.int z1 w1, .int z2 w2]) eH), (L + 1, o1), (L + 1 + 1, o2), (L + 1 + 1 + 1, p3), (L + 1 + 1 + 1 + 1, o4), (L + 1 + 1 + 1 + 1 + 1, o5), (L + 1 + 1 + 1 + 1 + 1 + 1, o6), (L + 1 + 1 + 1 + 1 + 1 + 1 + 1, o7), (L + 1 + 1 + 1 + 1 + 1 + 1 + 1 + 1, o8)] ∧ m = (fun (y : Str) => if y = "count" then some (.int 2 tc) else if y = "drawn" then some (.ref D) else u' y) ∧ (∃ v, p3.data = .cell v) ∧ IntsAre vs1 n1 ∧ IntsAre vs2 n2 ∧ n1.length + n2.length ≤ i) (by walk_at "m_hand") Fz Nz (.head _) rfl rfl ?_ ?_ ?_ ?_
    · exact ⟨fun y => if y = "script" then some (.ref l) else u y, [], [], [], [], 0, 0, _, rfl, rfl, ⟨_, d3⟩, .nil, .nil, Nat.le_refl _⟩
    · rintro i m nx ⟨u', vs1, vs2, n1, n2, e1, e2, p3, rfl, _⟩
      k_mem
    · rintro i v m₁ nx h tk2 ⟨I, io⟩ hvi ⟨u', vs1, vs2, n1, n2, e1, e2, p3, rfl, rfl, ⟨v3', d3'⟩, I1, I2, hle⟩ hne F1 N1
      have hil : i < ws.length := (List.getElem?_eq_some_iff.mp hvi).1
      have hwl := Iw.length
      obtain ⟨tx, ex⟩ := Iw.get i (xs[i]'(by omega)) (List.getElem?_eq_getElem (by omega))
      rw [hvi] at ex
      cases ex
      generalize xs[i]'(by omega) = x at hvi
      have c_ls : @Ne Nat (ls) I := hne (ls, _) (by k_mem)
      have c_D : @Ne Nat (D) I := hne (D, _) (by k_mem)
      have c_a1 : @Ne Nat (a1) I := hne (a1, _) (by k_mem)
      have c_a2 : @Ne Nat (a2) I := hne (a2, _) (by k_mem)
      have c_H : @Ne Nat (H) I := hne (H, _) (by k_mem)
      have c_1 : @Ne Nat (L + 1) I := hne (L + 1, _) (by k_mem)
      have c_2 : @Ne Nat (L + 1 + 1) I := hne (L + 1 + 1, _) (by k_mem)
      have c_3 : @Ne Nat (L + 1 + 1 + 1) I := hne (L + 1 + 1 + 1, _) (by k_mem)
      have c_4 : @Ne Nat (L + 1 + 1 + 1 + 1) I := hne (L + 1 + 1 + 1 + 1, _) (by k_mem)
      have c_5 : @Ne Nat (L + 1 + 1 + 1 + 1 + 1) I := hne (L + 1 + 1 + 1 + 1 + 1, _) (by k_mem)
      have c_6 : @Ne Nat (L + 1 + 1 + 1 + 1 + 1 + 1) I := hne (L + 1 + 1 + 1 + 1 + 1 + 1, _) (by k_mem)
      have c_7 : @Ne Nat (L + 1 + 1 + 1 + 1 + 1 + 1 + 1) I := hne (L + 1 + 1 + 1 + 1 + 1 + 1 + 1, _) (by k_mem)
      have c_8 : @Ne Nat (L + 1 + 1 + 1 + 1 + 1 + 1 + 1 + 1) I := hne (L + 1 + 1 + 1 + 1 + 1 + 1 + 1 + 1, _) (by k_mem)
      have N2 : News h₀ L h [(ls, PySem.W.listOf ws.toArray e), (D, PySem.W.listOf (List.toArray [.ref a1, .ref a2]) 0), (a1, PySem.W.listOf vs1.toArray e1), (a2, PySem.W.listOf vs2.toArray e2), (H, PySem.W.listOf (List.toArray [.int z1 w1, .int z2 w2]) eH), (L + 1, o1), (L + 1 + 1, o2), (L + 1 + 1 + 1, p3), (L + 1 + 1 + 1 + 1, o4), (L + 1 + 1 + 1 + 1 + 1, o5), (L + 1 + 1 + 1 + 1 + 1 + 1, o6), (L + 1 + 1 + 1 + 1 + 1 + 1 + 1, o7), (L + 1 + 1 + 1 + 1 + 1 + 1 + 1 + 1, o8), (I, io)] := fun q hq => N1 q (by simpa using hq)
      clear N1 Nz Fz
      k_steps
      have x0 := Int.fmod_nonneg_of_pos x (b := 2) (by decide)
      have x1 := Int.fmod_lt_of_pos x (b := 2) (by decide)
      rcases (show x.fmod 2 = 0 ∨ x.fmod 2 = 1 by omega) with hx | hx
      · rw [hx]
        refine ⟨?_⟩
        k_steps
        all_goals ((with_reducible rename Fr _ _ _ _ => Fx); (with_reducible rename News _ _ _ _ => Nx); rw [List.push_toArray] at Nx)
        all_goals refine ⟨rfl, _, _, _, _, [(ls, _), (D, _), (a1, _), (a2, _), (H, _), (L + 1, _), (L + 1 + 1, _), (L + 1 + 1 + 1, _), (L + 1 + 1 + 1 + 1, _), (L + 1 + 1 + 1 + 1 + 1, _), (L + 1 + 1 + 1 + 1 + 1 + 1, _), (L + 1 + 1 + 1 + 1 + 1 + 1 + 1, _), (L + 1 + 1 + 1 + 1 + 1 + 1 + 1 + 1, _)], rfl, fr_as (x := ("count" : Str)) (fr_as (x := ("drawn" : Str)) Fx rfl) rfl, Nx, SubL.mem ⟨by k_mem, by k_mem, by k_mem, by k_mem, by k_mem, by k_mem, by k_mem, by k_mem, by k_mem, by k_mem, by k_mem, by k_mem, by k_mem, trivial⟩, by k_mem, ?_, _, vs1 ++ [_], vs2, n1 ++ [_], n2, e1 + 1, e2, _, rfl, rfl, ⟨_, by assumption⟩, ints_end1 I1 _ _, I2, by simp only [List.length_append, List.length_singleton]; omega⟩
        all_goals (intro p hp; simp only [List.mem_cons, List.not_mem_nil, or_false] at hp; rcases hp with rfl | rfl | rfl | rfl | rfl | rfl | rfl | rfl | rfl | rfl | rfl | rfl | rfl <;> assumption)
      · rw [hx]
        refine ⟨?_⟩
        k_steps
        all_goals ((with_reducible rename Fr _ _ _ _ => Fx); (with_reducible rename News _ _ _ _ => Nx); rw [List.push_toArray] at Nx)
        all_goals refine ⟨rfl, _, _, _, _, [(ls, _), (D, _), (a1, _), (a2, _), (H, _), (L + 1, _), (L + 1 + 1, _), (L + 1 + 1 + 1, _), (L + 1 + 1 + 1 + 1, _), (L + 1 + 1 + 1 + 1 + 1, _), (L + 1 + 1 + 1 + 1 + 1 + 1, _), (L + 1 + 1 + 1 + 1 + 1 + 1 + 1, _), (L + 1 + 1 + 1 + 1 + 1 + 1 + 1 + 1, _)], rfl, fr_as (x := ("count" : Str)) (fr_as (x := ("drawn" : Str)) Fx rfl) rfl, Nx, SubL.mem ⟨by k_mem, by k_mem, by k_mem, by k_mem, by k_mem, by k_mem, by k_mem, by k_mem, by k_mem, by k_mem, by k_mem, by k_mem, by k_mem, trivial⟩, by k_mem, ?_, _, vs1, vs2 ++ [_], n1, n2 ++ [_], e1, e2 + 1, _, rfl, rfl, ⟨_, by assumption⟩, I1, ints_end1 I2 _ _, by simp only [List.length_append, List.length_singleton]; omega⟩
        all_goals (intro p hp; simp only [List.mem_cons, List.not_mem_nil, or_false] at hp; rcases hp with rfl | rfl | rfl | rfl | rfl | rfl | rfl | rfl | rfl | rfl | rfl | rfl | rfl <;> assumption)
    · rintro m₁ nx h tk2 ⟨u', vs1, vs2, n1, n2, e1, e2, p3, rfl, rfl, ⟨v3', d3'⟩, I1, I2, hle⟩ F1 N1
      refine ⟨rfl, fun ht => ?_⟩
      have N2 : News h₀ L h [(D, PySem.W.listOf (List.toArray [.ref a1, .ref a2]) 0), (a1, PySem.W.listOf vs1.toArray e1), (a2, PySem.W.listOf vs2.toArray e2), (H, PySem.W.listOf (List.toArray [.int z1 w1, .int z2 w2]) eH), (L + 1, o1), (L + 1 + 1, o2), (L + 1 + 1 + 1, p3), (L + 1 + 1 + 1 + 1, o4), (L + 1 + 1 + 1 + 1 + 1, o5), (L + 1 + 1 + 1 + 1 + 1 + 1, o6), (L + 1 + 1 + 1 + 1 + 1 + 1 + 1, o7), (L + 1 + 1 + 1 + 1 + 1 + 1 + 1 + 1, o8)] := news_pick N1 ⟨by k_mem, by k_mem, by k_mem, by k_mem, by k_mem, by k_mem, by k_mem, by k_mem, by k_mem, by k_mem, by k_mem, by k_mem, trivial⟩
      exact @next _ _ _ _ _ _ _ _ _ _ F1 N2 ⟨_, d3'⟩ I1 I2 (by have := Iw.length; omega) ht
theorem seg_loop3 {prog : Program} {w : World} {A : Around} {p : Program} {loose : List Str} {mg mb : Str → Option Value} {bm : Addr} {ob : Obj} {s : Shared} {h₀ : Heap} {L : Addr} {Q : Flow → Shared → Prop} {u : Str → Option Value} {tc : Tok} {l D H a1 a2 a3 : Addr} {vs : List Value} {ns : List Int} {eH : Nat} {z1 z2 z3 : Int} {w1 w2 w3 : Tok} {o1 o2 o3 o4 o5 o6 o7 o8 : Obj} {v3 : Option Value}
    (X : (hd.heap_39 w.params).In h₀) (T : TopRead p loose mg mb h₀) (hA : A.handled = none) (hd : A.depth + 90 < recursionLimit) (hu : A.units + 500 < cLine)
    (HL : h₀.IsList l vs.toArray) (HI : IntsAre vs ns) (hn : ns.length ≤ 63)
    (F : Fr h₀ L s.heap (fun y => if y = "count" then some (.int 3 tc) else if y = "drawn" then some (.ref D) else if y = "script" then some (.ref l) else u y))
    (N : News h₀ L s.heap [(D, PySem.W.listOf (List.toArray [.ref a1, .ref a2, .ref a3]) 0), (a1, PySem.W.listOf (List.toArray []) 0), (a2, PySem.W.listOf (List.toArray []) 0), (a3, PySem.W.listOf (List.toArray []) 0), (H, PySem.W.listOf (List.toArray [.int z1 w1, .int z2 w2, .int z3 w3]) eH), (L + 1, o1), (L + 1 + 1, o2), (L + 1 + 1 + 1, o3), (L + 1 + 1 + 1 + 1, o4), (L + 1 + 1 + 1 + 1 + 1, o5), (L + 1 + 1 + 1 + 1 + 1 + 1, o6), (L + 1 + 1 + 1 + 1 + 1 + 1 + 1, o7), (L + 1 + 1 + 1 + 1 + 1 + 1 + 1 + 1, o8)])
    (d3 : o3.data = .cell v3)
    (lH : @LT.lt Nat _ (L + 8) H) (lHa : @LT.lt Nat _ H a1) (la1 : @LT.lt Nat _ a1 a2) (la2 : @LT.lt Nat _ a2 a3) (laD : @LT.lt Nat _ a3 D) (ht : 12 ≤ s.toks)
    (next : ∀ (h' : Heap) (tk : Nat) (u' : Str → Option Value) (vs1 vs2 vs3 : List Value) (n1 n2 n3 : List Int) (e1 e2 e3 : Nat) (p3 : Obj), Fr h₀ L h' (fun y => if y = "count" then some (.int 3 tc) else if y = "drawn" then some (.ref D) else u' y) → News h₀ L h' [(D, PySem.W.listOf (List.toArray [.ref a1, .ref a2, .ref a3]) 0), (a1, PySem.W.listOf vs1.toArray e1), (a2, PySem.W.listOf vs2.toArray e2), (a3, PySem.W.listOf vs3.toArray e3), (H, PySem.W.listOf (List.toArray [.int z1 w1, .int z2 w2, .int z3 w3]) eH), (L + 1, o1), (L + 1 + 1, o2), (L + 1 + 1 + 1, p3), (L + 1 + 1 + 1 + 1, o4), (L + 1 + 1 + 1 + 1 + 1, o5), (L + 1 + 1 + 1 + 1 + 1 + 1, o6), (L + 1 + 1 + 1 + 1 + 1 + 1 + 1, o7), (L + 1 + 1 + 1 + 1 + 1 + 1 + 1 + 1, o8)] → (∃ v, p3.data = .cell v) → IntsAre vs1 n1 → IntsAre vs2 n2 → IntsAre vs3 n3 → n1.length + n2.length + n3.length ≤ 16 → 12 ≤ tk →
      wpAny (model prog w) A (execs (lawIs w 6) (lawEnv w L)) Q noE { s with heap := h', toks := tk }) :
    Hold (wpAny (model prog w) A (execs (lawIs w 5) (lawEnv w L)) Q noE s) := by
  refine ⟨?_⟩
  conv =>
    arg 3
    arg 1
    whnf
  conv =>
    arg 3
    arg 2
    whnf
  change wpAny _ _ (execs _ (envOfC (PySem.Str.ofString "law") _ L 387 (.ref 386))) _ _ _
  refine one_stmtT 12 ht ?_
  refine For_turns F ?_ (hE := PassesOwn.never)
  refine wpAny_mono (Q := fun v s₁ => Hold (∃ (ls : Addr) (ws : List Value) (xs : List Int) (e : Nat) (h' : Heap) (tk : Nat), v = .ref ls ∧ s₁ = { s with heap := h', toks := tk } ∧ Fr h₀ L h' (fun y => if y = "count" then some (.int 3 tc) else if y = "drawn" then some (.ref D) else if y = "script" then some (.ref l) else u y) ∧ News h₀ L h' [(ls, PySem.W.listOf ws.toArray e), (D, PySem.W.listOf (List.toArray [.ref a1, .ref a2, .ref a3]) 0), (a1, PySem.W.listOf (List.toArray []) 0), (a2, PySem.W.listOf (List.toArray []) 0), (a3, PySem.W.listOf (List.toArray []) 0), (H, PySem.W.listOf (List.toArray [.int z1 w1, .int z2 w2, .int z3 w3]) eH), (L + 1, o1), (L + 1 + 1, o2), (L + 1 + 1 + 1, o3), (L + 1 + 1 + 1 + 1, o4), (L + 1 + 1 + 1 + 1 + 1, o5), (L + 1 + 1 + 1 + 1 + 1 + 1, o6), (L + 1 + 1 + 1 + 1 + 1 + 1 + 1, o7), (L + 1 + 1 + 1 + 1 + 1 + 1 + 1 + 1, o8)] ∧ IntsAre ws xs ∧ xs.length ≤ 16 ∧ @LT.lt Nat _ D ls)) ?_ (fun v s₁ hv => ?_) (fun _ _ e => e)
  · k_steps
    all_goals ((with_reducible rename Fr _ _ _ _ => Fx); (with_reducible rename News _ _ _ _ => Nx))
    · exact ⟨⟨_, _, _, _, _, _, rfl, rfl, Fx, news_pick Nx ⟨by k_mem, by k_mem, by k_mem, by k_mem, by k_mem, by k_mem, by k_mem, by k_mem, by k_mem, by k_mem, by k_mem, by k_mem, by k_mem, by k_mem, trivial⟩, by assumption, by omega, by omega⟩⟩
    · exact ⟨⟨_, _, [0, 0, 2, 1, 3, 3], _, _, _, rfl, rfl, Fx, news_pick Nx ⟨by k_mem, by k_mem, by k_mem, by k_mem, by k_mem, by k_mem, by k_mem, by k_mem, by k_mem, by k_mem, by k_mem, by k_mem, by k_mem, by k_mem, trivial⟩, .cons _ _ (.cons _ _ (.cons _ _ (.cons _ _ (.cons _ _ (.cons _ _ (.nil)))))), by decide, by omega⟩⟩
  · obtain ⟨ls, ws, xs, e, h', tk, rfl, rfl, Fz, Nz, Iw, hxl, lD⟩ := hv.out
    clear hv F N
    refine turns_led (vs := ws) (lo := PySem.W.listOf ws.toArray e) (n := e) (fun i m nx => ∃ (u' : Str → Option Value) (vs1 vs2 vs3 : List Value) (n1 n2 n3 : List Int) (e1 e2 e3 : Nat) (p3 : Obj), nx = [(ls, PySem.W.listOf ws.toArray e), (D, PySem.W.listOf (List.toArray [.ref a1, .ref a2, .ref a3]) 0), (a1, PySem.W.listOf vs1.toArray e1), (a2, PySem.W.listOf vs2.toArray e2), (a3, PySem.W.listOf vs3.toArray e3), (H, PySem.W.listOf (List.toArray [.int z1 w1, .int z2 w2, .int z3 w3]) eH), (L + 1, o1), (L + 1 + 1, o2), (L + 1 + 1 + 1, p3), (L + 1 + 1 + 1 + 1, o4), (L + 1 + 1 + 1 + 1 + 1, o5), (L + 1 + 1 + 1 + 1 + 1 + 1, o6), (L + 1 + 1 + 1 + 1 + 1 + 1 + 1, o7), (L + 1 + 1 + 1 + 1 + 1 + 1 + 1 + 1, o8)] ∧ m = (fun (y : Str) => if y = "count" then some (.int 3 tc) else if y = "drawn" then some (.ref D) else u' y) ∧ (∃ v, p3.data = .cell v) ∧ IntsAre vs1 n1 ∧ IntsAre vs2 n2 ∧ IntsAre vs3 n3 ∧ n1.length + n2.length + n3.length ≤ i) (by walk_at "m_hand") Fz Nz (.head _) rfl rfl ?_ ?_ ?_ ?_
    · exact ⟨fun y => if y = "script" then some (.ref l) else u y, [], [], [], [], [], [], 0, 0, 0, _, rfl, rfl, ⟨_, d3⟩, .nil, .nil, .nil, Nat.le_refl _⟩
    · rintro i m nx ⟨u', vs1, vs2, vs3, n1, n2, n3, e1, e2, e3, p3, rfl, _⟩
      k_mem
    · rintro i v m₁ nx h tk2 ⟨I, io⟩ hvi ⟨u', vs1, vs2, vs3, n1, n2, n3, e1, e2, e3, p3, rfl, rfl, ⟨v3', d3'⟩, I1, I2, I3, hle⟩ hne F1 N1
      have hil : i < ws.length := (List.getElem?_eq_some_iff.mp hvi).1
      have hwl := Iw.length
      obtain ⟨tx, ex⟩ := Iw.get i (xs[i]'(by omega)) (List.getElem?_eq_getElem (by omega))
      rw [hvi] at ex
      cases ex
      generalize xs[i]'(by omega) = x at hvi
      have c_ls : @Ne Nat (ls) I := hne (ls, _) (by k_mem)
      have c_D : @Ne Nat (D) I := hne (D, _) (by k_mem)
      have c_a1 : @Ne Nat (a1) I := hne (a1, _) (by k_mem)
      have c_a2 : @Ne Nat (a2) I := hne (a2, _) (by k_mem)
      have c_a3 : @Ne Nat (a3) I := hne (a3, _) (by k_mem)
      have c_H : @Ne Nat (H) I := hne (H, _) (by k_mem)
      have c_1 : @Ne Nat (L + 1) I := hne (L + 1, _) (by k_mem)
      have c_2 : @Ne Nat (L + 1 + 1) I := hne (L + 1 + 1, _) (by k_mem)
      have c_3 : @Ne Nat (L + 1 + 1 + 1) I := hne (L + 1 + 1 + 1, _) (by k_mem)
      have c_4 : @Ne Nat (L + 1 + 1 + 1 + 1) I := hne (L + 1 + 1 + 1 + 1, _) (by k_mem)
      have c_5 : @Ne Nat (L + 1 + 1 + 1 + 1 + 1) I := hne (L + 1 + 1 + 1 + 1 + 1, _) (by k_mem)
      have c_6 : @Ne Nat (L + 1 + 1 + 1 + 1 + 1 + 1) I := hne (L + 1 + 1 + 1 + 1 + 1 + 1, _) (by k_mem)
      have c_7 : @Ne Nat (L + 1 + 1 + 1 + 1 + 1 + 1 + 1) I := hne (L + 1 + 1 + 1 + 1 + 1 + 1 + 1, _) (by k_mem)
      have c_8 : @Ne Nat (L + 1 + 1 + 1 + 1 + 1 + 1 + 1 + 1) I := hne (L + 1 + 1 + 1 + 1 + 1 + 1 + 1 + 1, _) (by k_mem)
      have N2 : News h₀ L h [(ls, PySem.W.listOf ws.toArray e), (D, PySem.W.listOf (List.toArray [.ref a1, .ref a2, .ref a3]) 0), (a1, PySem.W.listOf vs1.toArray e1), (a2, PySem.W.listOf vs2.toArray e2), (a3, PySem.W.listOf vs3.toArray e3), (H, PySem.W.listOf (List.toArray [.int z1 w1, .int z2 w2, .int z3 w3]) eH), (L + 1, o1), (L + 1 + 1, o2), (L + 1 + 1 + 1, p3), (L + 1 + 1 + 1 + 1, o4), (L + 1 + 1 + 1 + 1 + 1, o5), (L + 1 + 1 + 1 + 1 + 1 + 1, o6), (L + 1 + 1 + 1 + 1 + 1 + 1 + 1, o7), (L + 1 + 1 + 1 + 1 + 1 + 1 + 1 + 1, o8), (I, io)] := fun q hq => N1 q (by simpa using hq)
      clear N1 Nz Fz
      k_steps
      have x0 := Int.fmod_nonneg_of_pos x (b := 3) (by decide)
      have x1 := Int.fmod_lt_of_pos x (b := 3) (by decide)
      rcases (show x.fmod 3 = 0 ∨ x.fmod 3 = 1 ∨ x.fmod 3 = 2 by omega) with hx | hx | hx
      · rw [hx]
        refine ⟨?_⟩
        k_steps
        all_goals ((with_reducible rename Fr _ _ _ _ => Fx); (with_reducible rename News _ _ _ _ => Nx); rw [List.push_toArray] at Nx)
        all_goals refine ⟨rfl, _, _, _, _, [(ls, _), (D, _), (a1, _), (a2, _), (a3, _), (H, _), (L + 1, _), (L + 1 + 1, _), (L + 1 + 1 + 1, _), (L + 1 + 1 + 1 + 1, _), (L + 1 + 1 + 1 + 1 + 1, _), (L + 1 + 1 + 1 + 1 + 1 + 1, _), (L + 1 + 1 + 1 + 1 + 1 + 1 + 1, _), (L + 1 + 1 + 1 + 1 + 1 + 1 + 1 + 1, _)], rfl, fr_as (x := ("count" : Str)) (fr_as (x := ("drawn" : Str)) Fx rfl) rfl, Nx, SubL.mem ⟨by k_mem, by k_mem, by k_mem, by k_mem, by k_mem, by k_mem, by k_mem, by k_mem, by k_mem, by k_mem, by k_mem, by k_mem, by k_mem, by k_mem, trivial⟩, by k_mem, ?_, _, vs1 ++ [_], vs2, vs3, n1 ++ [_], n2, n3, e1 + 1, e2, e3, _, rfl, rfl, ⟨_, by assumption⟩, ints_end1 I1 _ _, I2, I3, by simp only [List.length_append, List.length_singleton]; omega⟩
        all_goals (intro p hp; simp only [List.mem_cons, List.not_mem_nil, or_false] at hp; rcases hp with rfl | rfl | rfl | rfl | rfl | rfl | rfl | rfl | rfl | rfl | rfl | rfl | rfl | rfl <;> assumption)
      · rw [hx]
        refine ⟨?_⟩
        k_steps
        all_goals ((with_reducible rename Fr _ _ _ _ => Fx); (with_reducible rename News _ _ _ _ => Nx); rw [List.push_toArray] at Nx)
        all_goals refine ⟨rfl, _, _, _, _, [(ls, _), (D, _), (a1, _), (a2, _), (a3, _), (H, _), (L + 1, _), (L + 1 + 1, _), (L + 1 + 1 + 1, _), (L + 1 + 1 + 1 + 1, _), (L + 1 + 1 + 1 + 1 + 1, _), (L + 1 + 1 + 1 + 1 + 1 + 1, _), (L + 1 + 1 + 1 + 1 + 1 + 1 + 1, _), (L + 1 + 1 + 1 + 1 + 1 + 1 + 1 + 1, _)], rfl, fr_as (x := ("count" : Str)) (fr_as (x := ("drawn" : Str)) Fx rfl) rfl, Nx, SubL.mem ⟨by k_mem, by k_mem, by k_mem, by k_mem, by k_mem, by k_mem, by k_mem, by k_mem, by k_mem, by k_mem, by k_mem, by k_mem, by k_mem, by k_mem, trivial⟩, by k_mem, ?_, _, vs1, vs2 ++ [_], vs3, n1, n2 ++ [_], n3, e1, e2 + 1, e3, _, rfl, rfl, ⟨_, by assumption⟩, I1, ints_end1 I2 _ _, I3, by simp only [List.length_append, List.length_singleton]; omega⟩
        all_goals (intro p hp; simp only [List.mem_cons, List.not_mem_nil, or_false] at hp; rcases hp with rfl | rfl | rfl | rfl | rfl | rfl | rfl | rfl | rfl | rfl | rfl | rfl | rfl | rfl <;> assumption)
      · rw [hx]
        refine ⟨?_⟩
        k_steps
        all_goals ((with_reducible rename Fr _ _ _ _ => Fx); (with_reducible rename News _ _ _ _ => Nx); rw [List.push_toArray] at Nx)
        all_goals refine ⟨rfl, _, _, _, _, [(ls, _), (D, _), (a1, _), (a2, _), (a3, _), (H, _), (L + 1, _), (L + 1 + 1, _), (L + 1 + 1 + 1, _), (L + 1 + 1 + 1 + 1, _), (L + 1 + 1 + 1 + 1 + 1, _), (L + 1 + 1 + 1 + 1 + 1 + 1, _), (L + 1 + 1 + 1 + 1 + 1 + 1 + 1, _), (L + 1 + 1 + 1 + 1 + 1 + 1 + 1 + 1, _)], rfl, fr_as (x := ("count" : Str)) (fr_as (x := ("drawn" : Str)) Fx rfl) rfl, Nx, SubL.mem ⟨by k_mem, by k_mem, by k_mem, by k_mem, by k_mem, by k_mem, by k_mem, by k_mem, by k_mem, by k_mem, by k_mem, by k_mem, by k_mem, by k_mem, trivial⟩, by k_mem, ?_, _, vs1, vs2, vs3 ++ [_], n1, n2, n3 ++ [_], e1, e2, e3 + 1, _, rfl, rfl, ⟨_, by assumption⟩, I1, I2, ints_end1 I3 _ _, by simp only [List.length_append, List.length_singleton]; omega⟩
        all_goals (intro p hp; simp only [List.mem_cons, List.not_mem_nil, or_false] at hp; rcases hp with rfl | rfl | rfl | rfl | rfl | rfl | rfl | rfl | rfl | rfl | rfl | rfl | rfl | rfl <;> assumption)
    · rintro m₁ nx h tk2 ⟨u', vs1, vs2, vs3, n1, n2, n3, e1, e2, e3, p3, rfl, rfl, ⟨v3', d3'⟩, I1, I2, I3, hle⟩ F1 N1
      refine ⟨rfl, fun ht => ?_⟩
      have N2 : News h₀ L h [(D, PySem.W.listOf (List.toArray [.ref a1, .ref a2, .ref a3]) 0), (a1, PySem.W.listOf vs1.toArray e1), (a2, PySem.W.listOf vs2.toArray e2), (a3, PySem.W.listOf vs3.toArray e3), (H, PySem.W.listOf (List.toArray [.int z1 w1, .int z2 w2, .int z3 w3]) eH), (L + 1, o1), (L + 1 + 1, o2), (L + 1 + 1 + 1, p3), (L + 1 + 1 + 1 + 1, o4), (L + 1 + 1 + 1 + 1 + 1, o5), (L + 1 + 1 + 1 + 1 + 1 + 1, o6), (L + 1 + 1 + 1 + 1 + 1 + 1 + 1, o7), (L + 1 + 1 + 1 + 1 + 1 + 1 + 1 + 1, o8)] := news_pick N1 ⟨by k_mem, by k_mem, by k_mem, by k_mem, by k_mem, by k_mem, by k_mem, by k_mem, by k_mem, by k_mem, by k_mem, by k_mem, by k_mem, trivial⟩
      exact @next _ _ _ _ _ _ _ _ _ _ _ _ _ F1 N2 ⟨_, d3'⟩ I1 I2 I3 (by have := Iw.length; omega) ht

end

open PySem PySem.W PySem.Calls PyProof.Rows
local macro_rules | `(tactic| walk_at "subscriptTail") => `(tactic| (k_here; (with_reducible show wpAny _ _ (subscriptTail _ _ (Value.ref _) (Value.int _ _)) _ _ _); k_dflt (refine' q_item ?R ?a ?b ?z ?_ ?s ?g; (case R => assumption); (case a => omega); (case b => omega); (case z => assumption); (case s => with_unfolding_all rfl); (case g => (intro _; with_unfolding_all rfl))); intro u'))
local macro_rules | `(tactic| walk_at "subscriptTail") => `(tactic| (k_here; (with_reducible show wpAny _ _ (subscriptTail _ (PySem.Expr.Slice none (some _) none _) (Value.ref _) (Value.ref _)) _ _ _); k_dflt (refine' q_upto ?R ?b ?z ?_ ?s ?g; (case R => assumption); (case b => assumption); (case z => assumption); (case s => with_unfolding_all rfl); (case g => (intro _; with_unfolding_all rfl)))))
local macro_rules | `(tactic| walk_at "compareOp NotIn") => `(tactic| (k_here; (with_reducible show wpAny _ _ (compareOp _ (Value.int _ _) (Value.ref _)) _ _ _); k_dflt (first
  | (refine' q_nin_tup ?R ?_; (case R => assumption))
  | (refine' q_nin_list ?R ?_; (case R => assumption)))))

section
open PySem PySem.W PySem.Calls PyProof.Rows
set_option maxHeartbeats 400000
theorem ints_comp' {pz : Nat → Bool} {g : Nat → Int} : ∀ (vs ts : List Value) (a : Nat), (∀ j v, vs[j]? = some v → ∃ t, v = Value.int ((a + j : Nat) : Int) t) →
    Paired (fun v y => ∃ k t u, v = Value.int k t ∧ y = Value.int (g k.toNat) u) (vs.filter fun v => match v with | .int k _ => pz k.toNat | _ => false) ts → IntsAre ts (((List.range' a vs.length).filter pz).map g)
  | [], ts, a, _, hP => by cases hP; exact .nil
  | v :: vs, ts, a, hv, hP => by
    obtain ⟨t, rfl⟩ := hv 0 v rfl
    have ih := fun ts => ints_comp' (pz := pz) (g := g) vs ts (a + 1) fun j v h => by
      obtain ⟨t, e⟩ := hv (j + 1) v (by simpa using h)
      exact ⟨t, by rw [e]; congr 1; omega⟩
    rw [List.length_cons, List.range'_succ]
    have e : (Int.toNat ((a + 0 : Nat) : Int)) = a := by simp
    cases hp : pz a with
    | true =>
      rw [List.filter_cons_of_pos (by show pz (Int.toNat ((a + 0 : Nat) : Int)) = true; rw [e]; exact hp)] at hP
      rw [List.filter_cons_of_pos hp, List.map_cons]
      cases hP with
      | cons h1 h2 =>
        obtain ⟨k, t', u, e1, rfl⟩ := h1
        injection e1 with e1 _
        subst e1
        rw [e]
        exact .cons _ _ (ih _ h2)
    | false =>
      rw [List.filter_cons_of_neg (by show ¬ pz (Int.toNat ((a + 0 : Nat) : Int)) = true; rw [e, hp]; exact Bool.false_ne_true)] at hP
      rw [List.filter_cons_of_neg (by rw [hp]; exact Bool.false_ne_true)]
      exact ih _ hP
theorem ints_comp {pz : Nat → Bool} {g : Nat → Int} {n : Nat} {vs ts : List Value} (hlen : vs.length = n) (hv : ∀ j v, vs[j]? = some v → j < n ∧ ∃ t, v = Value.int (j : Int) t)
    (hP : Paired (fun v y => ∃ k t u, v = Value.int k t ∧ y = Value.int (g k.toNat) u) (vs.filter fun v => match v with | .int k _ => pz k.toNat | _ => false) ts) : IntsAre ts (((List.range n).filter pz).map g) := by
  have := ints_comp' vs ts 0 (fun j v h => by obtain ⟨_, t, e⟩ := hv j v h; exact ⟨t, by rw [e]; congr 1; omega⟩) hP
  rw [hlen] at this
  rw [List.range_eq_range']
  exact this
section
variable {kd ns : List Int} {j : Nat}
theorem new1 (h : ((ns.take j).any fun x => x == ns.getD (Int.toNat (j : Int)) 0) = true) : false = newAt kd ns (Int.toNat (j : Int)) := by
  rw [Int.toNat_natCast] at h ⊢; unfold newAt; rw [h]; rfl
theorem new2 (h : ((ns.take j).any fun x => x == ns.getD (Int.toNat (j : Int)) 0) = false) (h2 : (kd.any fun x => x == ns.getD (Int.toNat (j : Int)) 0) = true) : false = newAt kd ns (Int.toNat (j : Int)) := by
  rw [Int.toNat_natCast] at h h2 ⊢; unfold newAt; rw [h, h2]; rfl
theorem new3 (h : ((ns.take j).any fun x => x == ns.getD (Int.toNat (j : Int)) 0) = false) (h2 : (kd.any fun x => x == ns.getD (Int.toNat (j : Int)) 0) = false) : true = newAt kd ns (Int.toNat (j : Int)) := by
  rw [Int.toNat_natCast] at h h2 ⊢; unfold newAt; rw [h, h2]; rfl
end
theorem foldl_take_succ {α β : Type} (f : β → α → β) (b : β) {l : List α} {i : Nat} {a : α} (h : l[i]? = some a) : (l.take (i + 1)).foldl f b = f ((l.take i).foldl f b) a := by
  rw [List.take_add_one, h]; simp

end

section
open PySem PySem.W PySem.Calls PyProof.Rows
set_option maxHeartbeats 4000000
local macro_rules | `(tactic| walk_at "call ref cons nil") => `(tactic| (k_here; (with_reducible show wpAny _ _ (call (Value.ref _) _ _) _ _ _); refine Halt.out ?_))
local macro_rules | `(tactic| walk_at "call builtin:all cons nil") => `(tactic| (k_here; (with_reducible show wpAny _ _ (call (Value.builtin "all") [Value.ref _] _) _ _ _); refine Halt.out ?_))
local macro_rules | `(tactic| walk_at "call builtin:sum cons nil") => `(tactic| (k_here; (with_reducible show wpAny _ _ (call (Value.builtin "sum") [Value.ref _] _) _ _ _); refine Halt.out ?_))
local macro_rules | `(tactic| walk_at "eval GeneratorExp Call cons") => `(tactic| (k_here; (with_reducible show wpAny _ _ (eval (Expr.GeneratorExp _ _ _ _) _) _ _ _); refine Halt.out ?_))
local macro_rules | `(tactic| walk_at "binaryOp Div int int") => `(tactic| (k_here; (with_reducible show wpAny _ _ (binaryOp Operator.Div _ _) _ _ _); refine Halt.out ?_))
local macro_rules | `(tactic| walk_at "binaryOp Div float int") => `(tactic| (k_here; (with_reducible show wpAny _ _ (binaryOp Operator.Div _ _) _ _ _); refine Halt.out ?_))
local macro_rules | `(tactic| walk_at "binaryOp Mult float int") => `(tactic| (k_here; (with_reducible show wpAny _ _ (binaryOp Operator.Mult (Value.float _ _) _) _ _ _); refine Halt.out ?_))
local macro_rules | `(tactic| walk_at "call builtin:min cons nil") => `(tactic| (k_here; (with_reducible show wpAny _ _ (call (Value.builtin "min") [Value.ref _] _) _ _ _); refine Halt.out ?_))
local macro_rules | `(tactic| walk_at "call ref nil") => `(tactic| (k_here; (with_reducible show wpAny _ _ (call (Value.ref _) _ _) _ _ _); refine Halt.out ?_))
local macro_rules | `(tactic| walk_at "call builtin:max cons nil") => `(tactic| (k_here; (with_reducible show wpAny _ _ (call (Value.builtin "max") [Value.ref _] _) _ _ _); refine Halt.out ?_))
local macro_rules | `(tactic| walk_at "pyIter ref") => `(tactic| (k_here; (with_reducible show wpAny _ _ (pyIter (Value.ref _)) _ _ _); refine Halt.out ?_))
local macro_rules | `(tactic| walk_at "binaryOp Add ref ref") => `(tactic| (k_here; (with_reducible show wpAny _ _ (binaryOp Operator.Add (Value.ref _) (Value.ref _)) _ _ _); refine Halt.out ?_))
local macro_rules | `(tactic| walk_at "call builtin:len cons nil") => `(tactic| (k_here; (with_reducible show wpAny _ _ (call (Value.builtin "len") [Value.ref _] _) _ _ _); refine Halt.out ?_))
theorem seg_kinds2 {prog : Program} {w : World} {A : Around} {p : Program} {loose : List Str} {mg mb : Str → Option Value} {bm : Addr} {ob : Obj} {s : Shared} {h₀ : Heap} {L : Addr} {Q : Flow → Shared → Prop} {u : Str → Option Value} {tc : Tok} {R H r1 r2 : Addr} {vs1 vs2 : List Value} {n1 n2 : List Int} {eR eH f1 f2 : Nat} {b : Bool} {z1 z2 : Int} {w1 w2 : Tok} {o1 o2 o3 o4 o5 o6 o7 o8 : Obj} {v3 v4 v6 v7 v8 : Option Value}
    (X : (hd.heap_39 w.params).In h₀) (T : TopRead p loose mg mb h₀) (hA : A.handled = none) (hd : A.depth + 90 < recursionLimit) (hu : A.units + 500 < cLine)
    (F : Fr h₀ L s.heap (fun y => if y = "count" then some (.int 2 tc) else u y))
    (N : News h₀ L s.heap [(R, PySem.W.listOf (List.toArray [.ref r1, .ref r2]) eR), (r1, ({ cls := .type "tuple", data := .seq vs1.toArray f1 } : Obj)), (r2, ({ cls := .type "tuple", data := .seq vs2.toArray f2 } : Obj)), (H, PySem.W.listOf (List.toArray [.int z1 w1, .int z2 w2]) eH), (L + 1, o1), (L + 1 + 1, o2), (L + 1 + 1 + 1, o3), (L + 1 + 1 + 1 + 1, o4), (L + 1 + 1 + 1 + 1 + 1, o5), (L + 1 + 1 + 1 + 1 + 1 + 1, o6), (L + 1 + 1 + 1 + 1 + 1 + 1 + 1, o7), (L + 1 + 1 + 1 + 1 + 1 + 1 + 1 + 1, o8)])
    (oR : (@LT.lt Nat _ R (L + 1) ∨ @LT.lt Nat _ (L + 8) R)) (or1 : (@LT.lt Nat _ r1 (L + 1) ∨ @LT.lt Nat _ (L + 8) r1)) (or2 : (@LT.lt Nat _ r2 (L + 1) ∨ @LT.lt Nat _ (L + 8) r2)) (oH : (@LT.lt Nat _ H (L + 1) ∨ @LT.lt Nat _ (L + 8) H))
    (d1 : o1.data = .cell (some (.bool b))) (d2 : o2.data = .cell (some (.ref H))) (d3 : o3.data = .cell v3) (d4 : o4.data = .cell v4) (d5 : o5.data = .cell (some (.ref R))) (d6 : o6.data = .cell v6) (d7 : o7.data = .cell v7) (d8 : o8.data = .cell v8)
    (I1 : IntsAre vs1 n1) (hz1 : n1.length ≤ 100) (I2 : IntsAre vs2 n2) (hz2 : n2.length ≤ 100)
    (ht : 12 ≤ s.toks)
    (next : ∀ (h' : Heap) (tk : Nat) (u' : Str → Option Value) (K : Addr) (vk : List Value) (eK : Nat) (kd : List Int) (o4' o6' : Obj), Fr h₀ L h' (fun y => if y = "count" then some (.int 2 tc) else u' y) → News h₀ L h' [(K, PySem.W.listOf vk.toArray eK), (R, PySem.W.listOf (List.toArray [.ref r1, .ref r2]) eR), (r1, ({ cls := .type "tuple", data := .seq vs1.toArray f1 } : Obj)), (r2, ({ cls := .type "tuple", data := .seq vs2.toArray f2 } : Obj)), (H, PySem.W.listOf (List.toArray [.int z1 w1, .int z2 w2]) eH), (L + 1, o1), (L + 1 + 1, o2), (L + 1 + 1 + 1, o3), (L + 1 + 1 + 1 + 1, o4'), (L + 1 + 1 + 1 + 1 + 1, o5), (L + 1 + 1 + 1 + 1 + 1 + 1, o6'), (L + 1 + 1 + 1 + 1 + 1 + 1 + 1, o7), (L + 1 + 1 + 1 + 1 + 1 + 1 + 1 + 1, o8)] → (@LT.lt Nat _ R (L + 1) ∨ @LT.lt Nat _ (L + 8) R) → (@LT.lt Nat _ r1 (L + 1) ∨ @LT.lt Nat _ (L + 8) r1) → (@LT.lt Nat _ r2 (L + 1) ∨ @LT.lt Nat _ (L + 8) r2) → (@LT.lt Nat _ H (L + 1) ∨ @LT.lt Nat _ (L + 8) H) → (@LT.lt Nat _ K (L + 1) ∨ @LT.lt Nat _ (L + 8) K) → o6'.data = .cell (some (.ref K)) → (∃ v, o4'.data = .cell v) → IntsAre vk kd → kd.Nodup → (∀ x ∈ n1, x ∈ kd) → (∀ x ∈ n2, x ∈ kd) → kd.length ≤ 200 → 12 ≤ tk →
      wpAny (model prog w) A (execs (lawIs w 9) (lawEnv w L)) Q noE { s with heap := h', toks := tk }) :
    Hold (wpAny (model prog w) A (execs (lawIs w 7) (lawEnv w L)) Q noE s) := by
  refine ⟨?_⟩
  conv =>
    arg 3
    arg 1
    whnf
  conv =>
    arg 3
    arg 2
    whnf
  change wpAny _ _ (execs _ (envOfC (PySem.Str.ofString "law") _ L 387 (.ref 386))) _ _ _
  refine one_stmtT 12 ht ?_
  k_steps
  all_goals (try (with_reducible show Halt (wpAny _ _ _ _ _ _); refine Halt.mk ?_))
  (with_reducible rename Fr _ _ _ _ => Fz)
  (with_reducible rename News _ _ _ _ => Nz)
  refine ⟨rfl, fun ht => ?_⟩
  refine one_stmtT 12 ht ?_
  refine For_turns Fz ?_ (hE := PassesOwn.never)
  k_steps
  all_goals (try (with_reducible show Halt (wpAny _ _ _ _ _ _); refine Halt.mk ?_))
  refine turns_led (vs := [.ref r1, .ref r2]) (lo := PySem.W.listOf (List.toArray [.ref r1, .ref r2]) eR) (n := eR) (fun i m nx => ∃ (K : Addr) (vk : List Value) (eK : Nat) (kd : List Int) (p4 p6 : Obj), nx = [(K, PySem.W.listOf vk.toArray eK), (R, PySem.W.listOf (List.toArray [.ref r1, .ref r2]) eR), (r1, ({ cls := .type "tuple", data := .seq vs1.toArray f1 } : Obj)), (r2, ({ cls := .type "tuple", data := .seq vs2.toArray f2 } : Obj)), (H, PySem.W.listOf (List.toArray [.int z1 w1, .int z2 w2]) eH), (L + 1, o1), (L + 1 + 1, o2), (L + 1 + 1 + 1, o3), (L + 1 + 1 + 1 + 1, p4), (L + 1 + 1 + 1 + 1 + 1, o5), (L + 1 + 1 + 1 + 1 + 1 + 1, p6), (L + 1 + 1 + 1 + 1 + 1 + 1 + 1, o7), (L + 1 + 1 + 1 + 1 + 1 + 1 + 1 + 1, o8)] ∧ m = (fun (y : Str) => if y = "count" then some (.int 2 tc) else u y) ∧ p6.data = .cell (some (.ref K)) ∧ (∃ v, p4.data = .cell v) ∧ IntsAre vk kd ∧ kd = ([n1, n2].take i).foldl fk [] ∧ (@LT.lt Nat _ K (L + 1) ∨ @LT.lt Nat _ (L + 8) K) ∧ kd.length ≤ 100 * i) (by walk_at "m_hand") Fz Nz (by k_mem) rfl rfl ?_ ?_ ?_ ?_
  · exact ⟨_, [], 0, [], _, _, rfl, rfl, by assumption, ⟨_, d4⟩, .nil, rfl, by omega, Nat.zero_le _⟩
  · rintro i m nx ⟨K, vk, eK, kd, p4, p6, rfl, _⟩
    k_mem
  · rintro i v m₁ nx h tk ⟨I, io⟩ hvi ⟨K, vk, eK, kd, p4, p6, rfl, rfl, d6, ⟨v4', d4⟩, IK, hkd, oK, hkl⟩ hne F1 N1
    obtain ⟨r, ns, vr, fr, rfl, hri, hmem, Ir, hzr, orr⟩ : ∃ (r : Addr) (ns : List Int) (vr : List Value) (fr : Nat), v = .ref r ∧ [n1, n2][i]? = some ns ∧ (r, ({ cls := .type "tuple", data := .seq vr.toArray fr } : Obj)) ∈ [(r1, ({ cls := .type "tuple", data := .seq vs1.toArray f1 } : Obj)), (r2, ({ cls := .type "tuple", data := .seq vs2.toArray f2 } : Obj))] ∧ IntsAre vr ns ∧ ns.length ≤ 100 ∧ (@LT.lt Nat _ r (L + 1) ∨ @LT.lt Nat _ (L + 8) r) := by
      rcases i with _ | _ | i
      · cases hvi; exact ⟨r1, n1, vs1, f1, rfl, rfl, by k_mem, I1, hz1, or1⟩
      · cases hvi; exact ⟨r2, n2, vs2, f2, rfl, rfl, by k_mem, I2, hz2, or2⟩
      · cases hvi
    have hi : i < 2 := by have := (List.getElem?_eq_some_iff.mp hri).1; simpa using this
    have c1 : @Ne Nat (L + 1) I := hne (L + 1, _) (by k_mem)
    have c2 : @Ne Nat (L + 1 + 1) I := hne (L + 1 + 1, _) (by k_mem)
    have c3 : @Ne Nat (L + 1 + 1 + 1) I := hne (L + 1 + 1 + 1, _) (by k_mem)
    have c4 : @Ne Nat (L + 1 + 1 + 1 + 1) I := hne (L + 1 + 1 + 1 + 1, _) (by k_mem)
    have c5 : @Ne Nat (L + 1 + 1 + 1 + 1 + 1) I := hne (L + 1 + 1 + 1 + 1 + 1, _) (by k_mem)
    have c6 : @Ne Nat (L + 1 + 1 + 1 + 1 + 1 + 1) I := hne (L + 1 + 1 + 1 + 1 + 1 + 1, _) (by k_mem)
    have c7 : @Ne Nat (L + 1 + 1 + 1 + 1 + 1 + 1 + 1) I := hne (L + 1 + 1 + 1 + 1 + 1 + 1 + 1, _) (by k_mem)
    have c8 : @Ne Nat (L + 1 + 1 + 1 + 1 + 1 + 1 + 1 + 1) I := hne (L + 1 + 1 + 1 + 1 + 1 + 1 + 1 + 1, _) (by k_mem)
    have N2 : News h₀ L h [(r, ({ cls := .type "tuple", data := .seq vr.toArray fr } : Obj)), (K, PySem.W.listOf vk.toArray eK), (R, PySem.W.listOf (List.toArray [.ref r1, .ref r2]) eR), (r1, ({ cls := .type "tuple", data := .seq vs1.toArray f1 } : Obj)), (r2, ({ cls := .type "tuple", data := .seq vs2.toArray f2 } : Obj)), (H, PySem.W.listOf (List.toArray [.int z1 w1, .int z2 w2]) eH), (L + 1, o1), (L + 1 + 1, o2), (L + 1 + 1 + 1, o3), (L + 1 + 1 + 1 + 1, p4), (L + 1 + 1 + 1 + 1 + 1, o5), (L + 1 + 1 + 1 + 1 + 1 + 1, p6), (L + 1 + 1 + 1 + 1 + 1 + 1 + 1, o7), (L + 1 + 1 + 1 + 1 + 1 + 1 + 1 + 1, o8), (I, io)] := fun q hq => by
      rcases List.mem_cons.mp hq with rfl | hq
      · exact N1 _ (List.mem_append_left _ (by simp only [List.mem_cons, List.not_mem_nil, or_false] at hmem ⊢; rcases hmem with h | h <;> simp [*]))
      · exact N1 q (by simpa using hq)
    have Rr : RowAt h r ns := ⟨vr, ⟨_, N2.get (.head _), rfl, fr, rfl⟩, Ir⟩
    clear N1
    clear Fz Nz
    k_steps
    all_goals (try (with_reducible show Halt (wpAny _ _ _ _ _ _); refine Halt.mk ?_))
    refine ⟨anyComp (h₀ := h₀) (fun v => match v with | .int k _ => newAt kd ns k.toNat | _ => false) (fun v y => ∃ k t u, v = Value.int k t ∧ y = Value.int (ns.getD k.toNat 0) u) rfl (by decide) rfl (by decide) rfl ?_⟩
    k_steps
    all_goals (try (with_reducible show Halt (wpAny _ _ _ _ _ _); refine Halt.mk ?_))
    (with_reducible rename News _ _ _ _ => Ny)
    refine len_tuple (items := vr.toArray) (News.isTup Ny (by k_mem)) (by rw [List.size_toArray, Ir.length]; omega) ?_
    rw [show ((vr.toArray.size : Nat) : Int) = ((ns.length : Nat) : Int) by rw [List.size_toArray, Ir.length]]
    k_steps
    all_goals (try (with_reducible show Halt (wpAny _ _ _ _ _ _); refine Halt.mk ?_))
    (with_reducible rename Fr _ _ _ _ => Fy)
    (with_reducible rename News _ _ _ _ => Nw)
    refine ⟨⟨_, _, _, _, Fy, Nw, src_range (by walk_at "m_hand") (by assumption) (by omega), by omega, ?_, ?_, ?_⟩⟩
    · intro C j v s₃ m₃ E' hvi hm Fc Nc
      obtain ⟨hlt, tj, rfl⟩ := hvi
      have hn := Fc.ns
      have X3 := X.keeps Fc.keep
      have T3 := T.keeps Fc.keep
      have g4 := Nc.get (show (L + 1 + 1 + 1 + 1, _) ∈ _ from by k_mem)
      have g6 := Nc.get (show (L + 1 + 1 + 1 + 1 + 1 + 1, _) ∈ _ from by k_mem)
      have Rc : RowAt s₃.heap r ns := ⟨vr, ⟨_, Nc.get (.head _), rfl, fr, rfl⟩, Ir⟩
      have Kc : IntsAt s₃.heap K kd := ⟨vk, ⟨_, Nc.get (.tail _ (.head _)), rfl, eK, rfl⟩, IK⟩
      clear Fy Nw
      k_steps
      all_goals (try (with_reducible show Halt (wpAny _ _ _ _ _ _); refine Halt.mk ?_))
      rename_i T5 h5 hk5 R5
      have hn5 := hn.keeps hk5
      have g45 := hk5 _ _ g4
      have g65 := hk5 _ _ g6
      have Rc5 := Rc.keep hk5
      have Kc5 := Kc.keep hk5
      refine ⟨?_⟩
      clear hn g4 g6 Rc Kc Fc Nc X3 T3
      k_steps
      all_goals (try (with_reducible show Halt (wpAny _ _ _ _ _ _); refine Halt.mk ?_))
      all_goals first | exact ⟨_, _, rfl, hk5⟩ | exact new1 (by assumption) | exact new2 (by assumption) (by assumption) | exact new3 (by assumption) (by assumption)
    · intro C j v s₃ m₃ E' hvi hp hm Fc Nc
      obtain ⟨hlt, tj, rfl⟩ := hvi
      have hn := Fc.ns
      have X3 := X.keeps Fc.keep
      have T3 := T.keeps Fc.keep
      have g4 := Nc.get (show (L + 1 + 1 + 1 + 1, _) ∈ _ from by k_mem)
      have g6 := Nc.get (show (L + 1 + 1 + 1 + 1 + 1 + 1, _) ∈ _ from by k_mem)
      have Rc : RowAt s₃.heap r ns := ⟨vr, ⟨_, Nc.get (.head _), rfl, fr, rfl⟩, Ir⟩
      have Kc : IntsAt s₃.heap K kd := ⟨vk, ⟨_, Nc.get (.tail _ (.head _)), rfl, eK, rfl⟩, IK⟩
      clear Fy Nw
      k_steps
      all_goals (try (with_reducible show Halt (wpAny _ _ _ _ _ _); refine Halt.mk ?_))
      exact ⟨_, _, rfl, fun _ _ e => e⟩
    · intro D h' tk' ts vs' e hD F2 N3 hlen hvs hP hkD
      replace F2 : Fr h₀ L h' _ := F2
      replace N3 : News h₀ L h' _ := N3
      clear Fy Nw
      k_steps
      all_goals (try (with_reducible show Halt (wpAny _ _ _ _ _ _); refine Halt.mk ?_))
      have It : IntsAre ts (firsts kd ns) := ints_comp hlen hvs hP
      have hfl := firsts_len kd ns
      refine add_lists_ints F2 N3 ⟨_, N3.get (show (K, _) ∈ _ from by k_mem), rfl, _, rfl⟩ ⟨_, N3.get (.head _), rfl, _, rfl⟩ IK It (fun h5 F5 N5 I5 => ?_) (by rw [sizeLine_eq]; omega)
      have lt8 : @LT.lt Nat _ (L + 8) h'.objs.size := Heap.lt_size (N3 (L + 1 + 1 + 1 + 1 + 1 + 1 + 1 + 1, _) (by k_mem)).1
      have ltI : @LT.lt Nat _ I h'.objs.size := Heap.lt_size (N3 (I, _) (by k_mem)).1
      generalize h'.objs.size = K5 at N5 lt8 ltI ⊢
      have N6 : News h₀ L h5 [(K5, _), (R, _), (r1, _), (r2, _), (H, _), (L + 1, _), (L + 1 + 1, _), (L + 1 + 1 + 1, _), (L + 1 + 1 + 1 + 1, _), (L + 1 + 1 + 1 + 1 + 1, _), (L + 1 + 1 + 1 + 1 + 1 + 1, _), (L + 1 + 1 + 1 + 1 + 1 + 1 + 1, _), (L + 1 + 1 + 1 + 1 + 1 + 1 + 1 + 1, _), (I, _)] := news_pick N5 ⟨by k_mem, by k_mem, by k_mem, by k_mem, by k_mem, by k_mem, by k_mem, by k_mem, by k_mem, by k_mem, by k_mem, by k_mem, by k_mem, by k_mem, trivial⟩
      clear N5 N3 F2
      k_steps
      all_goals (try (with_reducible show Halt (wpAny _ _ _ _ _ _); refine Halt.mk ?_))
      (with_reducible rename Fr _ _ _ _ => Fx)
      (with_reducible rename News _ _ _ _ => Nx)
      refine ⟨rfl, _, _, _, _, [(K5, _), (R, _), (r1, _), (r2, _), (H, _), (L + 1, _), (L + 1 + 1, _), (L + 1 + 1 + 1, _), (L + 1 + 1 + 1 + 1, _), (L + 1 + 1 + 1 + 1 + 1, _), (L + 1 + 1 + 1 + 1 + 1 + 1, _), (L + 1 + 1 + 1 + 1 + 1 + 1 + 1, _), (L + 1 + 1 + 1 + 1 + 1 + 1 + 1 + 1, _)], rfl, Fx, Nx, SubL.mem ⟨by k_mem, by k_mem, by k_mem, by k_mem, by k_mem, by k_mem, by k_mem, by k_mem, by k_mem, by k_mem, by k_mem, by k_mem, by k_mem, trivial⟩, by k_mem, ?_, K5, vk ++ ts, _, fk kd ns, _, _, rfl, rfl, by assumption, ⟨_, by assumption⟩, I5, ?_, by omega, ?_⟩
      · intro p hp
        simp only [List.mem_cons, List.not_mem_nil, or_false] at hp
        rcases hp with rfl | rfl | rfl | rfl | rfl | rfl | rfl | rfl | rfl | rfl | rfl | rfl | rfl
        · exact Nat.ne_of_gt ltI
        · exact hne (R, _) (by k_mem)
        · exact hne (r1, _) (by k_mem)
        · exact hne (r2, _) (by k_mem)
        · exact hne (H, _) (by k_mem)
        · exact c1
        · exact c2
        · exact c3
        · exact c4
        · exact c5
        · exact c6
        · exact c7
        · exact c8
      · rw [foldl_take_succ fk [] hri, ← hkd]
      · have := fk_len kd ns; omega
  · rintro m₁ nx h tk ⟨K, vk, eK, kd, p4, p6, rfl, rfl, d6, ⟨v4', d4⟩, IK, hkd, oK, hkl⟩ F1 N1
    refine ⟨rfl, fun ht => ?_⟩
    subst hkd
    refine @next _ _ _ K vk eK _ _ _ F1 N1 oR or1 or2 oH oK d6 ⟨_, d4⟩ IK (fk_nodup (fk_nodup List.nodup_nil)) (fun x hx => fk_old (fk_new hx)) (fun x hx => fk_new hx) ?_ ht
    have l1 := fk_len [] n1
    have l2 := fk_len (fk [] n1) n2
    show List.length (fk (fk [] n1) n2) ≤ _
    simp only [List.length_nil] at l1
    omega
theorem seg_kinds3 {prog : Program} {w : World} {A : Around} {p : Program} {loose : List Str} {mg mb : Str → Option Value} {bm : Addr} {ob : Obj} {s : Shared} {h₀ : Heap} {L : Addr} {Q : Flow → Shared → Prop} {u : Str → Option Value} {tc : Tok} {R H r1 r2 r3 : Addr} {vs1 vs2 vs3 : List Value} {n1 n2 n3 : List Int} {eR eH f1 f2 f3 : Nat} {b : Bool} {z1 z2 z3 : Int} {w1 w2 w3 : Tok} {o1 o2 o3 o4 o5 o6 o7 o8 : Obj} {v3 v4 v6 v7 v8 : Option Value}
    (X : (hd.heap_39 w.params).In h₀) (T : TopRead p loose mg mb h₀) (hA : A.handled = none) (hd : A.depth + 90 < recursionLimit) (hu : A.units + 500 < cLine)
    (F : Fr h₀ L s.heap (fun y => if y = "count" then some (.int 3 tc) else u y))
    (N : News h₀ L s.heap [(R, PySem.W.listOf (List.toArray [.ref r1, .ref r2, .ref r3]) eR), (r1, ({ cls := .type "tuple", data := .seq vs1.toArray f1 } : Obj)), (r2, ({ cls := .type "tuple", data := .seq vs2.toArray f2 } : Obj)), (r3, ({ cls := .type "tuple", data := .seq vs3.toArray f3 } : Obj)), (H, PySem.W.listOf (List.toArray [.int z1 w1, .int z2 w2, .int z3 w3]) eH), (L + 1, o1), (L + 1 + 1, o2), (L + 1 + 1 + 1, o3), (L + 1 + 1 + 1 + 1, o4), (L + 1 + 1 + 1 + 1 + 1, o5), (L + 1 + 1 + 1 + 1 + 1 + 1, o6), (L + 1 + 1 + 1 + 1 + 1 + 1 + 1, o7), (L + 1 + 1 + 1 + 1 + 1 + 1 + 1 + 1, o8)])
    (oR : (@LT.lt Nat _ R (L + 1) ∨ @LT.lt Nat _ (L + 8) R)) (or1 : (@LT.lt Nat _ r1 (L + 1) ∨ @LT.lt Nat _ (L + 8) r1)) (or2 : (@LT.lt Nat _ r2 (L + 1) ∨ @LT.lt Nat _ (L + 8) r2)) (or3 : (@LT.lt Nat _ r3 (L + 1) ∨ @LT.lt Nat _ (L + 8) r3)) (oH : (@LT.lt Nat _ H (L + 1) ∨ @LT.lt Nat _ (L + 8) H))
    (d1 : o1.data = .cell (some (.bool b))) (d2 : o2.data = .cell (some (.ref H))) (d3 : o3.data = .cell v3) (d4 : o4.data = .cell v4) (d5 : o5.data = .cell (some (.ref R))) (d6 : o6.data = .cell v6) (d7 : o7.data = .cell v7) (d8 : o8.data = .cell v8)
    (I1 : IntsAre vs1 n1) (hz1 : n1.length ≤ 100) (I2 : IntsAre vs2 n2) (hz2 : n2.length ≤ 100) (I3 : IntsAre vs3 n3) (hz3 : n3.length ≤ 100)
    (ht : 12 ≤ s.toks)
    (next : ∀ (h' : Heap) (tk : Nat) (u' : Str → Option Value) (K : Addr) (vk : List Value) (eK : Nat) (kd : List Int) (o4' o6' : Obj), Fr h₀ L h' (fun y => if y = "count" then some (.int 3 tc) else u' y) → News h₀ L h' [(K, PySem.W.listOf vk.toArray eK), (R, PySem.W.listOf (List.toArray [.ref r1, .ref r2, .ref r3]) eR), (r1, ({ cls := .type "tuple", data := .seq vs1.toArray f1 } : Obj)), (r2, ({ cls := .type "tuple", data := .seq vs2.toArray f2 } : Obj)), (r3, ({ cls := .type "tuple", data := .seq vs3.toArray f3 } : Obj)), (H, PySem.W.listOf (List.toArray [.int z1 w1, .int z2 w2, .int z3 w3]) eH), (L + 1, o1), (L + 1 + 1, o2), (L + 1 + 1 + 1, o3), (L + 1 + 1 + 1 + 1, o4'), (L + 1 + 1 + 1 + 1 + 1, o5), (L + 1 + 1 + 1 + 1 + 1 + 1, o6'), (L + 1 + 1 + 1 + 1 + 1 + 1 + 1, o7), (L + 1 + 1 + 1 + 1 + 1 + 1 + 1 + 1, o8)] → (@LT.lt Nat _ R (L + 1) ∨ @LT.lt Nat _ (L + 8) R) → (@LT.lt Nat _ r1 (L + 1) ∨ @LT.lt Nat _ (L + 8) r1) → (@LT.lt Nat _ r2 (L + 1) ∨ @LT.lt Nat _ (L + 8) r2) → (@LT.lt Nat _ r3 (L + 1) ∨ @LT.lt Nat _ (L + 8) r3) → (@LT.lt Nat _ H (L + 1) ∨ @LT.lt Nat _ (L + 8) H) → (@LT.lt Nat _ K (L + 1) ∨ @LT.lt Nat _ (L + 8) K) → o6'.data = .cell (some (.ref K)) → (∃ v, o4'.data = .cell v) → IntsAre vk kd → kd.Nodup → (∀ x ∈ n1, x ∈ kd) → (∀ x ∈ n2, x ∈ kd) → (∀ x ∈ n3, x ∈ kd) → kd.length ≤ 300 → 12 ≤ tk →
      wpAny (model prog w) A (execs (lawIs w 9) (lawEnv w L)) Q noE { s with heap := h', toks := tk }) :
    Hold (wpAny (model prog w) A (execs (lawIs w 7) (lawEnv w L)) Q noE s) := by
  refine ⟨?_⟩
  conv =>
    arg 3
    arg 1
    whnf
  conv =>
    arg 3
    arg 2
    whnf
  change wpAny _ _ (execs _ (envOfC (PySem.Str.ofString "law") _ L 387 (.ref 386))) _ _ _
  refine one_stmtT 12 ht ?_
  k_steps
  all_goals (try (with_reducible show Halt (wpAny _ _ _ _ _ _); refine Halt.mk ?_))
  (with_reducible rename Fr _ _ _ _ => Fz)
  (with_reducible rename News _ _ _ _ => Nz)
  refine ⟨rfl, fun ht => ?_⟩
  refine one_stmtT 12 ht ?_
  refine For_turns Fz ?_ (hE := PassesOwn.never)
  k_steps
  all_goals (try (with_reducible show Halt (wpAny _ _ _ _ _ _); refine Halt.mk ?_))
  refine turns_led (vs := [.ref r1, .ref r2, .ref r3]) (lo := PySem.W.listOf (List.toArray [.ref r1, .ref r2, .ref r3]) eR) (n := eR) (fun i m nx => ∃ (K : Addr) (vk : List Value) (eK : Nat) (kd : List Int) (p4 p6 : Obj), nx = [(K, PySem.W.listOf vk.toArray eK), (R, PySem.W.listOf (List.toArray [.ref r1, .ref r2, .ref r3]) eR), (r1, ({ cls := .type "tuple", data := .seq vs1.toArray f1 } : Obj)), (r2, ({ cls := .type "tuple", data := .seq vs2.toArray f2 } : Obj)), (r3, ({ cls := .type "tuple", data := .seq vs3.toArray f3 } : Obj)), (H, PySem.W.listOf (List.toArray [.int z1 w1, .int z2 w2, .int z3 w3]) eH), (L + 1, o1), (L + 1 + 1, o2), (L + 1 + 1 + 1, o3), (L + 1 + 1 + 1 + 1, p4), (L + 1 + 1 + 1 + 1 + 1, o5), (L + 1 + 1 + 1 + 1 + 1 + 1, p6), (L + 1 + 1 + 1 + 1 + 1 + 1 + 1, o7), (L + 1 + 1 + 1 + 1 + 1 + 1 + 1 + 1, o8)] ∧ m = (fun (y : Str) => if y = "count" then some (.int 3 tc) else u y) ∧ p6.data = .cell (some (.ref K)) ∧ (∃ v, p4.data = .cell v) ∧ IntsAre vk kd ∧ kd = ([n1, n2, n3].take i).foldl fk [] ∧ (@LT.lt Nat _ K (L + 1) ∨ @LT.lt Nat _ (L + 8) K) ∧ kd.length ≤ 100 * i) (by walk_at "m_hand") Fz Nz (by k_mem) rfl rfl ?_ ?_ ?_ ?_
  · exact ⟨_, [], 0, [], _, _, rfl, rfl, by assumption, ⟨_, d4⟩, .nil, rfl, by omega, Nat.zero_le _⟩
  · rintro i m nx ⟨K, vk, eK, kd, p4, p6, rfl, _⟩
    k_mem
  · rintro i v m₁ nx h tk ⟨I, io⟩ hvi ⟨K, vk, eK, kd, p4, p6, rfl, rfl, d6, ⟨v4', d4⟩, IK, hkd, oK, hkl⟩ hne F1 N1
    obtain ⟨r, ns, vr, fr, rfl, hri, hmem, Ir, hzr, orr⟩ : ∃ (r : Addr) (ns : List Int) (vr : List Value) (fr : Nat), v = .ref r ∧ [n1, n2, n3][i]? = some ns ∧ (r, ({ cls := .type "tuple", data := .seq vr.toArray fr } : Obj)) ∈ [(r1, ({ cls := .type "tuple", data := .seq vs1.toArray f1 } : Obj)), (r2, ({ cls := .type "tuple", data := .seq vs2.toArray f2 } : Obj)), (r3, ({ cls := .type "tuple", data := .seq vs3.toArray f3 } : Obj))] ∧ IntsAre vr ns ∧ ns.length ≤ 100 ∧ (@LT.lt Nat _ r (L + 1) ∨ @LT.lt Nat _ (L + 8) r) := by
      rcases i with _ | _ | _ | i
      · cases hvi; exact ⟨r1, n1, vs1, f1, rfl, rfl, by k_mem, I1, hz1, or1⟩
      · cases hvi; exact ⟨r2, n2, vs2, f2, rfl, rfl, by k_mem, I2, hz2, or2⟩
      · cases hvi; exact ⟨r3, n3, vs3, f3, rfl, rfl, by k_mem, I3, hz3, or3⟩
      · cases hvi
    have hi : i < 3 := by have := (List.getElem?_eq_some_iff.mp hri).1; simpa using this
    have c1 : @Ne Nat (L + 1) I := hne (L + 1, _) (by k_mem)
    have c2 : @Ne Nat (L + 1 + 1) I := hne (L + 1 + 1, _) (by k_mem)
    have c3 : @Ne Nat (L + 1 + 1 + 1) I := hne (L + 1 + 1 + 1, _) (by k_mem)
    have c4 : @Ne Nat (L + 1 + 1 + 1 + 1) I := hne (L + 1 + 1 + 1 + 1, _) (by k_mem)
    have c5 : @Ne Nat (L + 1 + 1 + 1 + 1 + 1) I := hne (L + 1 + 1 + 1 + 1 + 1, _) (by k_mem)
    have c6 : @Ne Nat (L + 1 + 1 + 1 + 1 + 1 + 1) I := hne (L + 1 + 1 + 1 + 1 + 1 + 1, _) (by k_mem)
    have c7 : @Ne Nat (L + 1 + 1 + 1 + 1 + 1 + 1 + 1) I := hne (L + 1 + 1 + 1 + 1 + 1 + 1 + 1, _) (by k_mem)
    have c8 : @Ne Nat (L + 1 + 1 + 1 + 1 + 1 + 1 + 1 + 1) I := hne (L + 1 + 1 + 1 + 1 + 1 + 1 + 1 + 1, _) (by k_mem)
    have N2 : News h₀ L h [(r, ({ cls := .type "tuple", data := .seq vr.toArray fr } : Obj)), (K, PySem.W.listOf vk.toArray eK), (R, PySem.W.listOf (List.toArray [.ref r1, .ref r2, .ref r3]) eR), (r1, ({ cls := .type "tuple", data := .seq vs1.toArray f1 } : Obj)), (r2, ({ cls := .type "tuple", data := .seq vs2.toArray f2 } : Obj)), (r3, ({ cls := .type "tuple", data := .seq vs3.toArray f3 } : Obj)), (H, PySem.W.listOf (List.toArray [.int z1 w1, .int z2 w2, .int z3 w3]) eH), (L + 1, o1), (L + 1 + 1, o2), (L + 1 + 1 + 1, o3), (L + 1 + 1 + 1 + 1, p4), (L + 1 + 1 + 1 + 1 + 1, o5), (L + 1 + 1 + 1 + 1 + 1 + 1, p6), (L + 1 + 1 + 1 + 1 + 1 + 1 + 1, o7), (L + 1 + 1 + 1 + 1 + 1 + 1 + 1 + 1, o8), (I, io)] := fun q hq => by
      rcases List.mem_cons.mp hq with rfl | hq
      · exact N1 _ (List.mem_append_left _ (by simp only [List.mem_cons, List.not_mem_nil, or_false] at hmem ⊢; rcases hmem with h | h | h <;> simp [*]))
      · exact N1 q (by simpa using hq)
    have Rr : RowAt h r ns := ⟨vr, ⟨_, N2.get (.head _), rfl, fr, rfl⟩, Ir⟩
    clear N1
    clear Fz Nz
    k_steps
    all_goals (try (with_reducible show Halt (wpAny _ _ _ _ _ _); refine Halt.mk ?_))
    refine ⟨anyComp (h₀ := h₀) (fun v => match v with | .int k _ => newAt kd ns k.toNat | _ => false) (fun v y => ∃ k t u, v = Value.int k t ∧ y = Value.int (ns.getD k.toNat 0) u) rfl (by decide) rfl (by decide) rfl ?_⟩
    k_steps
    all_goals (try (with_reducible show Halt (wpAny _ _ _ _ _ _); refine Halt.mk ?_))
    (with_reducible rename News _ _ _ _ => Ny)
    refine len_tuple (items := vr.toArray) (News.isTup Ny (by k_mem)) (by rw [List.size_toArray, Ir.length]; omega) ?_
    rw [show ((vr.toArray.size : Nat) : Int) = ((ns.length : Nat) : Int) by rw [List.size_toArray, Ir.length]]
    k_steps
    all_goals (try (with_reducible show Halt (wpAny _ _ _ _ _ _); refine Halt.mk ?_))
    (with_reducible rename Fr _ _ _ _ => Fy)
    (with_reducible rename News _ _ _ _ => Nw)
    refine ⟨⟨_, _, _, _, Fy, Nw, src_range (by walk_at "m_hand") (by assumption) (by omega), by omega, ?_, ?_, ?_⟩⟩
    · intro C j v s₃ m₃ E' hvi hm Fc Nc
      obtain ⟨hlt, tj, rfl⟩ := hvi
      have hn := Fc.ns
      have X3 := X.keeps Fc.keep
      have T3 := T.keeps Fc.keep
      have g4 := Nc.get (show (L + 1 + 1 + 1 + 1, _) ∈ _ from by k_mem)
      have g6 := Nc.get (show (L + 1 + 1 + 1 + 1 + 1 + 1, _) ∈ _ from by k_mem)
      have Rc : RowAt s₃.heap r ns := ⟨vr, ⟨_, Nc.get (.head _), rfl, fr, rfl⟩, Ir⟩
      have Kc : IntsAt s₃.heap K kd := ⟨vk, ⟨_, Nc.get (.tail _ (.head _)), rfl, eK, rfl⟩, IK⟩
      clear Fy Nw
      k_steps
      all_goals (try (with_reducible show Halt (wpAny _ _ _ _ _ _); refine Halt.mk ?_))
      rename_i T5 h5 hk5 R5
      have hn5 := hn.keeps hk5
      have g45 := hk5 _ _ g4
      have g65 := hk5 _ _ g6
      have Rc5 := Rc.keep hk5
      have Kc5 := Kc.keep hk5
      refine ⟨?_⟩
      clear hn g4 g6 Rc Kc Fc Nc X3 T3
      k_steps
      all_goals (try (with_reducible show Halt (wpAny _ _ _ _ _ _); refine Halt.mk ?_))
      all_goals first | exact ⟨_, _, rfl, hk5⟩ | exact new1 (by assumption) | exact new2 (by assumption) (by assumption) | exact new3 (by assumption) (by assumption)
    · intro C j v s₃ m₃ E' hvi hp hm Fc Nc
      obtain ⟨hlt, tj, rfl⟩ := hvi
      have hn := Fc.ns
      have X3 := X.keeps Fc.keep
      have T3 := T.keeps Fc.keep
      have g4 := Nc.get (show (L + 1 + 1 + 1 + 1, _) ∈ _ from by k_mem)
      have g6 := Nc.get (show (L + 1 + 1 + 1 + 1 + 1 + 1, _) ∈ _ from by k_mem)
      have Rc : RowAt s₃.heap r ns := ⟨vr, ⟨_, Nc.get (.head _), rfl, fr, rfl⟩, Ir⟩
      have Kc : IntsAt s₃.heap K kd := ⟨vk, ⟨_, Nc.get (.tail _ (.head _)), rfl, eK, rfl⟩, IK⟩
      clear Fy Nw
      k_steps
      all_goals (try (with_reducible show Halt (wpAny _ _ _ _ _ _); refine Halt.mk ?_))
      exact ⟨_, _, rfl, fun _ _ e => e⟩
    · intro D h' tk' ts vs' e hD F2 N3 hlen hvs hP hkD
      replace F2 : Fr h₀ L h' _ := F2
      replace N3 : News h₀ L h' _ := N3
      clear Fy Nw
      k_steps
      all_goals (try (with_reducible show Halt (wpAny _ _ _ _ _ _); refine Halt.mk ?_))
      have It : IntsAre ts (firsts kd ns) := ints_comp hlen hvs hP
      have hfl := firsts_len kd ns
      refine add_lists_ints F2 N3 ⟨_, N3.get (show (K, _) ∈ _ from by k_mem), rfl, _, rfl⟩ ⟨_, N3.get (.head _), rfl, _, rfl⟩ IK It (fun h5 F5 N5 I5 => ?_) (by rw [sizeLine_eq]; omega)
      have lt8 : @LT.lt Nat _ (L + 8) h'.objs.size := Heap.lt_size (N3 (L + 1 + 1 + 1 + 1 + 1 + 1 + 1 + 1, _) (by k_mem)).1
      have ltI : @LT.lt Nat _ I h'.objs.size := Heap.lt_size (N3 (I, _) (by k_mem)).1
      generalize h'.objs.size = K5 at N5 lt8 ltI ⊢
      have N6 : News h₀ L h5 [(K5, _), (R, _), (r1, _), (r2, _), (r3, _), (H, _), (L + 1, _), (L + 1 + 1, _), (L + 1 + 1 + 1, _), (L + 1 + 1 + 1 + 1, _), (L + 1 + 1 + 1 + 1 + 1, _), (L + 1 + 1 + 1 + 1 + 1 + 1, _), (L + 1 + 1 + 1 + 1 + 1 + 1 + 1, _), (L + 1 + 1 + 1 + 1 + 1 + 1 + 1 + 1, _), (I, _)] := news_pick N5 ⟨by k_mem, by k_mem, by k_mem, by k_mem, by k_mem, by k_mem, by k_mem, by k_mem, by k_mem, by k_mem, by k_mem, by k_mem, by k_mem, by k_mem, by k_mem, trivial⟩
      clear N5 N3 F2
      k_steps
      all_goals (try (with_reducible show Halt (wpAny _ _ _ _ _ _); refine Halt.mk ?_))
      (with_reducible rename Fr _ _ _ _ => Fx)
      (with_reducible rename News _ _ _ _ => Nx)
      refine ⟨rfl, _, _, _, _, [(K5, _), (R, _), (r1, _), (r2, _), (r3, _), (H, _), (L + 1, _), (L + 1 + 1, _), (L + 1 + 1 + 1, _), (L + 1 + 1 + 1 + 1, _), (L + 1 + 1 + 1 + 1 + 1, _), (L + 1 + 1 + 1 + 1 + 1 + 1, _), (L + 1 + 1 + 1 + 1 + 1 + 1 + 1, _), (L + 1 + 1 + 1 + 1 + 1 + 1 + 1 + 1, _)], rfl, Fx, Nx, SubL.mem ⟨by k_mem, by k_mem, by k_mem, by k_mem, by k_mem, by k_mem, by k_mem, by k_mem, by k_mem, by k_mem, by k_mem, by k_mem, by k_mem, by k_mem, trivial⟩, by k_mem, ?_, K5, vk ++ ts, _, fk kd ns, _, _, rfl, rfl, by assumption, ⟨_, by assumption⟩, I5, ?_, by omega, ?_⟩
      · intro p hp
        simp only [List.mem_cons, List.not_mem_nil, or_false] at hp
        rcases hp with rfl | rfl | rfl | rfl | rfl | rfl | rfl | rfl | rfl | rfl | rfl | rfl | rfl | rfl
        · exact Nat.ne_of_gt ltI
        · exact hne (R, _) (by k_mem)
        · exact hne (r1, _) (by k_mem)
        · exact hne (r2, _) (by k_mem)
        · exact hne (r3, _) (by k_mem)
        · exact hne (H, _) (by k_mem)
        · exact c1
        · exact c2
        · exact c3
        · exact c4
        · exact c5
        · exact c6
        · exact c7
        · exact c8
      · rw [foldl_take_succ fk [] hri, ← hkd]
      · have := fk_len kd ns; omega
  · rintro m₁ nx h tk ⟨K, vk, eK, kd, p4, p6, rfl, rfl, d6, ⟨v4', d4⟩, IK, hkd, oK, hkl⟩ F1 N1
    refine ⟨rfl, fun ht => ?_⟩
    subst hkd
    refine @next _ _ _ K vk eK _ _ _ F1 N1 oR or1 or2 or3 oH oK d6 ⟨_, d4⟩ IK (fk_nodup (fk_nodup (fk_nodup List.nodup_nil))) (fun x hx => fk_old (fk_old (fk_new hx))) (fun x hx => fk_old (fk_new hx)) (fun x hx => fk_new hx) ?_ ht
    have l1 := fk_len [] n1
    have l2 := fk_len (fk [] n1) n2
    have l3 := fk_len (fk (fk [] n1) n2) n3
    show List.length (fk (fk (fk [] n1) n2) n3) ≤ _
    simp only [List.length_nil] at l1
    omega

end

open PySem PySem.W PySem.Calls PyProof.Rows
theorem row_uniq {h : Heap} {r : Addr} {n m : List Int} (R : RowAt h r n) (R' : RowAt h r m) : n = m := by
  obtain ⟨vs, ⟨o, a, _, e, d⟩, i⟩ := R
  obtain ⟨ws, ⟨o', a', _, e', d'⟩, i'⟩ := R'
  rw [a] at a'
  cases a'
  rw [d] at d'
  have q : vs = ws := by injection d' with d' _; simpa using d'
  subst q
  clear d d' a
  induction i generalizing m with
  | nil => cases i'; rfl
  | cons n t _ ih => cases i' with | cons _ _ i' => rw [ih i']
theorem pickR2 {h : Heap} {r1 r2 : Addr} {n1 n2 : List Int} (f : List Int → Int) (R1 : RowAt h r1 n1) (R2 : RowAt h r2 n2) : ∃ G : GIs, G.g (.ref r1) = f n1 ∧ G.g (.ref r2) = f n2 := by
  refine ⟨⟨fun v => if v = .ref r1 then f n1 else f n2⟩, if_pos rfl, ?_⟩
  by_cases e : r2 = r1
  · subst e; rw [row_uniq R2 R1]; exact if_pos rfl
  · exact if_neg fun q => e (by injection q)
theorem pickR3 {h : Heap} {r1 r2 r3 : Addr} {n1 n2 n3 : List Int} (f : List Int → Int) (R1 : RowAt h r1 n1) (R2 : RowAt h r2 n2) (R3 : RowAt h r3 n3) : ∃ G : GIs, G.g (.ref r1) = f n1 ∧ G.g (.ref r2) = f n2 ∧ G.g (.ref r3) = f n3 := by
  refine ⟨⟨fun v => if v = .ref r1 then f n1 else if v = .ref r2 then f n2 else f n3⟩, if_pos rfl, ?_, ?_⟩
  · by_cases e : r2 = r1
    · subst e; rw [row_uniq R2 R1]; exact if_pos rfl
    · exact (if_neg fun q => e (by injection q)).trans (if_pos rfl)
  · by_cases e : r3 = r1
    · subst e; rw [row_uniq R3 R1]; exact if_pos rfl
    · by_cases e2 : r3 = r2
      · subst e2; rw [row_uniq R3 R2]; exact (if_neg fun q => e (by injection q)).trans (if_pos rfl)
      · exact (if_neg fun q => e (by injection q)).trans (if_neg fun q => e2 (by injection q))
theorem most2 {M a b : Int} (h : M ∈ [a, b]) (h' : ∀ z, z ∈ [a, b] → z ≤ M) : M = max a b := by
  have z1 := h' a (by simp)
  have z2 := h' b (by simp)
  simp at h
  omega
theorem most3 {M a b c : Int} (h : M ∈ [a, b, c]) (h' : ∀ z, z ∈ [a, b, c] → z ≤ M) : M = max (max a b) c := by
  have z1 := h' a (by simp)
  have z2 := h' b (by simp)
  have z3 := h' c (by simp)
  simp at h
  omega
theorem news_ne {h₀ h : Heap} {L : Addr} {news : List (Addr × Obj)} {a b : Addr} {o o' : Obj} (N : News h₀ L h news) (h1 : (a, o) ∈ news) (h2 : (b, o') ∈ news) (hd : o.data ≠ o'.data) : @Ne Nat a b := by
  rintro rfl
  have e1 := (N _ h1).1
  have e2 := (N _ h2).1
  dsimp only at e1 e2
  rw [e1] at e2
  cases e2
  exact hd rfl
theorem sum_take_succ (f : Int → Int) {l : List Int} {i : Nat} {x : Int} (h : l[i]? = some x) : ((l.take (i + 1)).map f).sum = ((l.take i).map f).sum + f x := by
  rw [List.take_add_one, h]; simp
section
variable {M : Model} {A : Around} {E : Value → Shared → Prop} {s : Shared} {h₀ : Heap} {L a : Addr} {cn : Str} {cs : Scope} {ccd : Value} {cl : List (Str × Addr)} {x : Str} {v : Value} {Q : Value → Shared → Prop} {news : List (Addr × Obj)} {c : Addr} {o : Obj}
theorem load_C (N : News h₀ L s.heap news) (hc : cl.lookup x = some c) (hm : (c, o) ∈ news) (hd : o.data = .cell (some v)) (h : Q v s)
    (hk : cs.kind = .function := by rfl) (hx : (envX cn cs L a ccd cl).kindOf x = some .cell := by rfl) : wpAny M A (loadName (envX cn cs L a ccd cl) x) Q E s := wpAny_loadName_cell hk hx hc ⟨o, N.get hm, hd⟩ h
end
local macro_rules | `(tactic| walk_at "loadName") => `(tactic| (k_here; k_dflt (refine' load_C ?N ?c ?m ?d ?_ ?a ?b; (case a => rfl); (case b => rfl); (case N => k_asm); (case c => rfl); (case m => k_mem); (case d => assumption))))
local macro_rules | `(tactic| walk_at "exec Assign cons ListComp") => `(tactic| (k_here; (with_reducible show wpAny _ _ (exec (Stmt.Assign _ (Expr.ListComp (Expr.Call (Expr.Name (PySem.Str.ofString "_law_many") _) _ _ _) _ _ _) _) _) _ _ _); refine Hold.out ?_))

section
open PySem PySem.W PySem.Calls PyProof.Rows
set_option maxHeartbeats 4000000
abbrev cellNone : Obj := { cls := .type "cell", data := .cell none }
theorem newEnv_one {M : Model} {A : Around} {E : Value → Shared → Prop} {s : Shared} {scope : Scope} {globals : Addr} {cl : List (Str × Addr)} {qual : Str} {env : Env} {x : Str} {Q : Env → Shared → Prop}
    (hcells : ∀ n acc, cellsFrom n scope.names acc = (x, n) :: acc) (hpush : ∀ h : Heap, pushCells h scope.names = h.push cellNone)
    (hQ : Q { scope, locals := s.heap.objs.size, globals, cells := (x, s.heap.objs.size + 1) :: cl, qual, func := none, code := env.code, frame := env.frame, builtins := env.builtins } { s with heap := (s.heap.push { cls := .type "dict", data := .dict #[] }).push cellNone }) :
    wpAny M A (newFunctionEnv scope globals cl [] qual none .none (some env)) Q E s := by
  simp only [newFunctionEnv, Option.isSome_some, if_true]
  refine wpAny_bind (wpAny_alloc ?_)
  refine wpAny_bind (wpAny_layCells _ (fun name kind cells => by cases hkc : kind == NameKind.cell <;> simp [hkc]) _ _ _ _ ?_)
  rw [hcells, hpush, show ({ s with heap := s.heap.push { cls := .type "dict", data := .dict #[] } } : Shared).heap.objs.size = s.heap.objs.size + 1 from Heap.size_push ..]
  rw [List.forIn_nil]
  exact wpAny_bind (wpAny_pure (wpAny_pure hQ))
section
variable {prog : Program} {w : World} {A : Around} {E : Value → Shared → Prop} {env : Env} {s : Shared} {h₀ : Heap}
/-- a list comprehension of ints whose variable is a cell -/
theorem cellComp {elt iter : Expr} {x : Str} {px : Pos} {scope : Scope} {cl : List (Str × Addr)} {pos : Pos} {Q : Value → Shared → Prop} (hh : A.handled = none)
    (hclos : closureFor scope env = pure cl) (hcells : ∀ n acc, cellsFrom n scope.names acc = (x, n) :: acc) (hpush : ∀ h : Heap, pushCells h scope.names = h.push cellNone) (hkind : scope.kind = .function)
    (hnames : ∀ y ∈ scope.names, y.2 = .local → scope.names.lookup y.1 = some .local) (hx : ∀ C cx, (compEnvC scope ((x, cx) :: cl) C env).kindOf x = some .cell)
    (h : wpAny (model prog w) A (eval iter env) (fun xv s₁ => Hold (∃ (l : Addr) (vs : List Value) (f : Nat → Int) (m : Str → Option Value) (news : List (Addr × Obj)), xv = .ref l ∧ s₁.heap.IsList l vs.toArray ∧ vs.length ≤ 100 ∧ Fr h₀ env.locals s₁.heap m ∧ News h₀ env.locals s₁.heap news ∧
      (∀ (C cx : Addr) oc i v s₃ m₃ E', vs[i]? = some v → oc.data = .cell (some v) → Fr h₀ C s₃.heap m₃ → News h₀ C s₃.heap ((cx, oc) :: news) →
        wpAny (model prog w) A (eval elt (compEnvC scope ((x, cx) :: cl) C env)) (fun y s₄ => (∃ u, y = Value.int (f i) u) ∧ Keeps s₃ s₄) E' s₃) ∧
      (∀ (D : Addr) (h' : Heap) (tk : Nat) (ts : List Value) (e : Nat), s₁.heap.get? D = none → Fr h₀ env.locals h' m → News h₀ env.locals h' ((D, PySem.W.listOf ts.toArray e) :: news) → ts.length = vs.length → (∀ j y, ts[j]? = some y → ∃ u, y = Value.int (f j) u) →
        Q (.ref D) { s₁ with heap := h', toks := tk }))) E s)
    (hs : ∀ x, foldedSetIterable iter env x = pure x := by intro _; rfl) :
    wpAny (model prog w) A (eval (.ListComp elt [⟨.Name x px, iter, [], 0⟩] scope pos) env) Q E s := by
  rw [eval_ListComp]
  refine wpAny_comprehension_free (use := none) rfl hs hclos hkind hnames (wpAny_mono h (fun xv s₁ h₁ => ?_) fun _ _ e => e)
  obtain ⟨l, vs, f, m, news, rfl, hl, hlen, F, N, helt, hQ⟩ := h₁.out
  have hllt : l < s₁.heap.objs.size := let ⟨_, e, _⟩ := hl; Heap.lt_size e
  refine wpAny_pyIter_list hl ?_
  generalize hI : s₁.heap.objs.size = I
  generalize hio : ({ cls := .type "list_iterator", data := .fields #[.ref l, .int 0 0] } : Obj) = io
  have hlI : l ≠ I := by subst hI; exact Nat.ne_of_lt hllt
  have W : Walks prog w A I [I, l] [I] vs.toArray.size _ _ := Walks.list hh I l hlI vs.toArray
  have old : ∀ b o, s₁.heap.get? b = some o → b < I := fun b o e => by subst hI; exact Heap.lt_size e
  refine wpAny_newObj_type (newEnv_one hcells hpush ?_)
  dsimp only
  generalize hD0 : (s₁.heap.push io).objs.size = D
  generalize hH : (s₁.heap.push io).push { cls := .type "list", dict := none, data := .seq ([] : List Value).toArray } = H
  generalize hC0 : H.objs.size = C
  have hDI : D = I + 1 := by subst hD0 hI; exact Heap.size_push ..
  have hCD : C = D + 1 := by subst hC0 hH hD0; exact Heap.size_push ..
  have hX0 : (H.push { cls := .type "dict", data := .dict #[] }).objs.size = C + 1 := by rw [Heap.size_push, hC0]
  have lt1 : (I : Nat) < D := by rw [hDI]; exact Nat.lt_succ_self _
  have lt2 : (D : Nat) < C := by rw [hCD]; exact Nat.lt_succ_self _
  generalize hh1 : (H.push { cls := .type "dict", data := .dict #[] }).push cellNone = h₁
  have gI : H.get? I = some io := by subst hH; exact Heap.get?_push_of_some _ (by subst hI; exact Heap.get?_push_size _ (by subst hio; rfl))
  have gD : H.get? D = some { cls := .type "list", dict := none, data := .seq ([] : List Value).toArray } := by subst hH hD0; exact Heap.get?_push_size _ rfl
  have gO : ∀ b o, s₁.heap.get? b = some o → H.get? b = some o := fun b o e => by subst hH; exact Heap.get?_push_of_some _ (Heap.get?_push_of_some _ e)
  have up : ∀ b o, H.get? b = some o → h₁.get? b = some o := fun b o e => by subst hh1; exact Heap.get?_push_of_some _ (Heap.get?_push_of_some _ e)
  have gX : h₁.get? (C + 1) = some cellNone := by subst hh1; rw [← hX0]; exact Heap.get?_push_size _ rfl
  have hns₁ : h₁.Ns C (fun _ => none) := by
    have : (H.push { cls := .type "dict", data := .dict #[] }).Ns H.objs.size (fun _ => none) := Heap.Ns.new H (.type "dict")
    rw [hC0] at this
    subst hh1
    exact this.push _
  have lt3 : (C : Nat) < C + 1 := Nat.lt_succ_self _
  generalize hX : (C + 1 : Nat) = X at gX lt3 hX0
  have oldC : ∀ b o, s₁.heap.get? b = some o → b ≠ X ∧ b ≠ D ∧ b ≠ I ∧ b ≠ C := fun b o e =>
    ⟨Nat.ne_of_lt (Nat.lt_trans (old b o e) (Nat.lt_trans lt1 (Nat.lt_trans lt2 lt3))), Nat.ne_of_lt (Nat.lt_trans (old b o e) lt1), Nat.ne_of_lt (old b o e), Nat.ne_of_lt (Nat.lt_trans (old b o e) (Nat.lt_trans lt1 lt2))⟩
  have nDX : D ≠ X := Nat.ne_of_lt (Nat.lt_trans lt2 lt3)
  have nIX : I ≠ X := Nat.ne_of_lt (Nat.lt_trans lt1 (Nat.lt_trans lt2 lt3))
  have nCX : C ≠ X := Nat.ne_of_lt lt3
  have nDI : I ≠ D := Nat.ne_of_lt lt1
  have nCD : D ≠ C := Nat.ne_of_lt lt2
  have nCI : I ≠ C := Nat.ne_of_lt (Nat.lt_trans lt1 lt2)
  have hlC := oldC l _ hl.choose_spec.1
  have hst₁ : h₁.IsListIter I l 0 ∧ h₁.IsList l vs.toArray := by
    obtain ⟨ol, hol, r⟩ := hl
    exact ⟨⟨io, up I io gI, by subst hio; rfl, by subst hio; rfl⟩, ⟨ol, up l ol (gO l ol hol), r⟩⟩
  have hacc : h₁.PlainList D ([] : List Value).toArray := ⟨_, up D _ gD⟩
  have frame : ∀ (h₃ : Heap) (m₃ : Str → Option Value) (oc : Obj), h₃.Ns C m₃ → h₃.get? X = some oc → (∀ b o, s₁.heap.get? b = some o → h₃.get? b = some o) → Fr h₀ C h₃ m₃ ∧ News h₀ C h₃ ((X, oc) :: news) := by
    intro h₃ m₃ oc hns hoc hk
    have hIC : I < C := Nat.lt_trans lt1 lt2
    refine ⟨⟨hns, fun b o e => hk b o (F.keep b o e), Nat.le_trans F.above (Nat.le_of_lt (Nat.lt_trans (by have := F.ns.lt; rwa [hI] at this) hIC))⟩, fun q hq => ?_⟩
    rcases List.mem_cons.mp hq with rfl | hq
    · refine ⟨hoc, Ne.symm nCX, ?_⟩
      cases e : h₀.get? X with
      | none => rfl
      | some o => exact absurd rfl (oldC X o (F.keep _ _ e)).1
    · obtain ⟨q1, q2, q3⟩ := N q hq
      exact ⟨hk _ _ q1, (oldC _ _ q1).2.2.2, q3⟩
  have loop : codeAny (model prog w) A (.compLoop (.ListComp elt [⟨.Name x px, iter, [], 0⟩] scope pos) 0 (.ref I) (.ref D) (compEnvC scope ((x, X) :: cl) C env))
      (compPost (model prog w) A E none Q (.ref D) C) { s₁ with heap := h₁ } := by
    refine codeAny_compLoop_tests
      (fun k s' => ∃ (h' : Heap) (tk : Nat) (m' : Str → Option Value) (ts : List Value) (v0 : Option Value), s' = { s₁ with heap := h', toks := tk } ∧ (h'.IsListIter I l ts.length ∧ h'.IsList l vs.toArray) ∧ h'.PlainList D ts.toArray ∧ h'.Ns C m' ∧ h'.IsCell X v0 ∧ (∀ j y, ts[j]? = some y → ∃ u, y = Value.int (f j) u) ∧
        ts.length ≤ vs.length ∧ k = vs.length + 1 - ts.length ∧ (∀ b o, s₁.heap.get? b = some o → h'.get? b = some o)) ?_ (vs.length + 1)
      ⟨h₁, _, _, [], none, rfl, hst₁, hacc, hns₁, ⟨_, gX, rfl⟩, fun _ _ e => by simp at e, Nat.zero_le _, rfl, fun b o e => up b o (gO b o e)⟩
    rintro k s' ⟨h', tk, m', ts, v0, rfl, hst, hpl, hns, hce, hts, hle, rfl, hk⟩
    by_cases hlt : ts.length < vs.length
    · refine W.item ts.length _ _ _ (by simpa using hlt) hst fun v h₂ tk₂ hP hst₂ hk₂ => ?_
      have k2 : ∀ b o, b ≠ I → h'.get? b = some o → h₂.get? b = some o := fun b o hb e => hk₂ b o (by simpa using hb) e
      have hce₂ : h₂.IsCell X v0 := let ⟨o, a, b⟩ := hce; ⟨o, k2 X o (Ne.symm nIX) a, b⟩
      have hns₂ : h₂.Ns C m' := hns.at' fun o e => k2 C o (Ne.symm nCI) e
      refine wpAny_assign_Name (wpAny_storeName_cell (c := X) (by simp [compEnvC, relabel, hkind]) (hx C X) (by simp [compEnvC]) hce₂ fun h₃ hv₃ hs₃ => ?_)
      have k3 : ∀ b o, b ≠ I → b ≠ X → h'.get? b = some o → h₃.get? b = some o := fun b o hb hb2 e => hs₃.extBut b o hb2 (k2 b o hb e)
      have hns₃ : h₃.Ns C m' := hns₂.sameBut hs₃ nCX
      refine wpAny_pure ?_
      rw [if_pos rfl]
      have hst₃ := W.frame _ _ h₃ hst₂ fun b hb o e => hs₃.extBut b o (by
        rcases List.mem_cons.mp hb with rfl | hb
        · exact nIX
        · rw [List.mem_singleton.mp hb]; exact hlC.1) e
      have hvi : vs[ts.length]? = some v := by simpa using hP
      obtain ⟨oc, hoc, hoc2⟩ := hv₃
      have kO : ∀ b o, s₁.heap.get? b = some o → h₃.get? b = some o := fun b o e => k3 b o (oldC b o e).2.2.1 (oldC b o e).1 (hk b o e)
      obtain ⟨Fc, Nc⟩ := frame h₃ m' oc hns₃ hoc kO
      refine wpAny_mono (helt C X oc ts.length v { s₁ with heap := h₃, toks := _ } m' _ hvi hoc2 Fc Nc) ?_ fun _ _ e => e
      rintro y s₄ ⟨⟨T, rfl⟩, h₄, tk₄, rfl, hk₄⟩
      dsimp only at hk₄
      have hpl₄ : h₄.PlainList D ts.toArray := hpl.at fun o e => hk₄ _ _ (k3 D o (Ne.symm nDI) nDX e)
      refine wpAny_list_append_plain (s := { s₁ with heap := h₄, toks := tk₄ }) hpl₄ (fun h₅ hpl₅ hs₅ => ?_) (by rw [sizeLine_eq, List.size_toArray]; omega)
      have k5 : ∀ b o, b ∉ [X, D, I] → h'.get? b = some o → h₅.get? b = some o := fun b o hb e => by
        simp only [List.mem_cons, List.not_mem_nil, or_false, not_or] at hb
        exact hs₅.extBut b o hb.2.1 (hk₄ b o (k3 b o hb.2.2 hb.1 e))
      have k35 : ∀ b o, b ≠ D → h₃.get? b = some o → h₅.get? b = some o := fun b o hb e => hs₅.extBut b o hb (hk₄ b o e)
      refine ⟨vs.length + 1 - (ts ++ [Value.int (f ts.length) T]).length, by simp; omega, h₅, tk₄, _, ts ++ [Value.int (f ts.length) T], some v, rfl, ?_, by simpa using hpl₅, (hns₃.keeps hk₄).sameBut hs₅ (Ne.symm nCD), ⟨oc, k35 X oc (Ne.symm nDX) hoc, hoc2⟩, ?_, by simp; omega, rfl, fun b o e => k5 b o (by simp only [List.mem_cons, List.not_mem_nil, or_false, not_or]; exact ⟨(oldC b o e).1, (oldC b o e).2.1, (oldC b o e).2.2.1⟩) (hk b o e)⟩
      · have := W.frame _ _ h₅ hst₃ fun b hb o e => k35 b o (by
          rcases List.mem_cons.mp hb with rfl | hb
          · exact nDI
          · rw [List.mem_singleton.mp hb]; exact hlC.2.1) e
        simpa using this
      · intro j T' hj
        rcases Nat.lt_trichotomy j ts.length with hj1 | hj1 | hj1
        · rw [List.getElem?_append_left hj1] at hj
          exact hts j T' hj
        · subst hj1; simp at hj; subst hj; exact ⟨T, rfl⟩
        · rw [List.getElem?_eq_none (by simp; omega)] at hj; cases hj
    · have hin : ts.length = vs.length := by omega
      have hst' := hst
      rw [hin] at hst'
      refine W.done _ _ _ (by simpa using hst') fun h₂ tk₂ hk₂ => ?_
      have k2 : ∀ b o, b ≠ I → h'.get? b = some o → h₂.get? b = some o := fun b o hb e => hk₂ b o (by simpa using hb) e
      refine ⟨m', hns.at' fun o e => k2 C o (Ne.symm nCI) e, fun h'' hs'' => ?_⟩
      have k4 : ∀ b o, b ≠ I → b ≠ C → h'.get? b = some o → h''.get? b = some o := fun b o h1 h2 e => hs''.extBut b o h2 (k2 b o h1 e)
      have kS : ∀ b o, s₁.heap.get? b = some o → h''.get? b = some o := fun b o e => k4 b o (oldC b o e).2.2.1 (oldC b o e).2.2.2 (hk b o e)
      have hDs : s₁.heap.get? D = none := Heap.get?_none_of_le (by rw [hI]; exact Nat.le_of_lt lt1)
      obtain ⟨e, he⟩ := hpl
      refine hQ D h'' tk₂ ts e hDs (fr_grow F kS) ?_ hin hts
      intro q hq
      rcases List.mem_cons.mp hq with rfl | hq
      · refine ⟨k4 D _ (Ne.symm nDI) nCD he, ?_, get_none F.keep hDs⟩
        rintro rfl
        obtain ⟨oL, _, _, hL, _⟩ := F.ns
        rw [hL] at hDs; cases hDs
      · exact news_grow N kS q hq
  exact codeAny_compStart_list loop (W.self 0 _ _ _ hst₁ loop)
end

end

section
local macro_rules | `(tactic| walk_at "pad") => `(tactic| fail)
open PySem PySem.W PySem.Calls PyProof.Rows
set_option maxHeartbeats 4000000
local macro_rules | `(tactic| walk_at "call ref cons nil") => `(tactic| (k_here; (with_reducible show wpAny _ _ (call (Value.ref _) _ _) _ _ _); refine Halt.out ?_))
local macro_rules | `(tactic| walk_at "call builtin:all cons nil") => `(tactic| (k_here; (with_reducible show wpAny _ _ (call (Value.builtin "all") [Value.ref _] _) _ _ _); refine Halt.out ?_))
local macro_rules | `(tactic| walk_at "call builtin:sum cons nil") => `(tactic| (k_here; (with_reducible show wpAny _ _ (call (Value.builtin "sum") [Value.ref _] _) _ _ _); refine Halt.out ?_))
local macro_rules | `(tactic| walk_at "eval GeneratorExp Call cons") => `(tactic| (k_here; (with_reducible show wpAny _ _ (eval (Expr.GeneratorExp _ _ _ _) _) _ _ _); refine Halt.out ?_))
local macro_rules | `(tactic| walk_at "binaryOp Div int int") => `(tactic| (k_here; (with_reducible show wpAny _ _ (binaryOp Operator.Div _ _) _ _ _); refine Halt.out ?_))
local macro_rules | `(tactic| walk_at "binaryOp Div float int") => `(tactic| (k_here; (with_reducible show wpAny _ _ (binaryOp Operator.Div _ _) _ _ _); refine Halt.out ?_))
local macro_rules | `(tactic| walk_at "binaryOp Mult float int") => `(tactic| (k_here; (with_reducible show wpAny _ _ (binaryOp Operator.Mult (Value.float _ _) _) _ _ _); refine Halt.out ?_))
local macro_rules | `(tactic| walk_at "call builtin:min cons nil") => `(tactic| (k_here; (with_reducible show wpAny _ _ (call (Value.builtin "min") [Value.ref _] _) _ _ _); refine Halt.out ?_))
local macro_rules | `(tactic| walk_at "call ref nil") => `(tactic| (k_here; (with_reducible show wpAny _ _ (call (Value.ref _) _ _) _ _ _); refine Halt.out ?_))
local macro_rules | `(tactic| walk_at "call builtin:max cons nil") => `(tactic| (k_here; (with_reducible show wpAny _ _ (call (Value.builtin "max") [Value.ref _] _) _ _ _); refine Halt.out ?_))
local macro_rules | `(tactic| walk_at "pyIter ref") => `(tactic| (k_here; (with_reducible show wpAny _ _ (pyIter (Value.ref _)) _ _ _); refine Halt.out ?_))
theorem seg_shared2 {prog : Program} {w : World} {A : Around} {p : Program} {loose : List Str} {mg mb : Str → Option Value} {bm : Addr} {ob : Obj} {s : Shared} {h₀ : Heap} {L : Addr} {Q : Flow → Shared → Prop} {u : Str → Option Value} {tc : Tok} {R H r1 r2 : Addr} {vs1 vs2 : List Value} {n1 n2 : List Int} {eR eH f1 f2 : Nat} {b : Bool} {z1 z2 : Int} {w1 w2 : Tok} {o1 o2 o3 o4 o5 o6 o7 o8 : Obj} {K : Addr} {vk : List Value} {eK : Nat} {kd : List Int} {v3 v4 v7 v8 : Option Value}
    (X : (hd.heap_39 w.params).In h₀) (T : TopRead p loose mg mb h₀) (hA : A.handled = none) (hd : A.depth + 90 < recursionLimit) (hu : A.units + 500 < cLine)
    (F : Fr h₀ L s.heap (fun y => if y = "count" then some (.int 2 tc) else u y))
    (N : News h₀ L s.heap [(K, PySem.W.listOf vk.toArray eK), (R, PySem.W.listOf (List.toArray [.ref r1, .ref r2]) eR), (r1, ({ cls := .type "tuple", data := .seq vs1.toArray f1 } : Obj)), (r2, ({ cls := .type "tuple", data := .seq vs2.toArray f2 } : Obj)), (H, PySem.W.listOf (List.toArray [.int z1 w1, .int z2 w2]) eH), (L + 1, o1), (L + 1 + 1, o2), (L + 1 + 1 + 1, o3), (L + 1 + 1 + 1 + 1, o4), (L + 1 + 1 + 1 + 1 + 1, o5), (L + 1 + 1 + 1 + 1 + 1 + 1, o6), (L + 1 + 1 + 1 + 1 + 1 + 1 + 1, o7), (L + 1 + 1 + 1 + 1 + 1 + 1 + 1 + 1, o8)])
    (oR : (@LT.lt Nat _ R (L + 1) ∨ @LT.lt Nat _ (L + 8) R)) (or1 : (@LT.lt Nat _ r1 (L + 1) ∨ @LT.lt Nat _ (L + 8) r1)) (or2 : (@LT.lt Nat _ r2 (L + 1) ∨ @LT.lt Nat _ (L + 8) r2)) (oH : (@LT.lt Nat _ H (L + 1) ∨ @LT.lt Nat _ (L + 8) H))
    (oK : (@LT.lt Nat _ K (L + 1) ∨ @LT.lt Nat _ (L + 8) K)) (IK : IntsAre vk kd) (hkd : kd.length ≤ 300)
    (d1 : o1.data = .cell (some (.bool b))) (d2 : o2.data = .cell (some (.ref H))) (d3 : o3.data = .cell v3) (d4 : o4.data = .cell v4) (d5 : o5.data = .cell (some (.ref R))) (d6 : o6.data = .cell (some (.ref K))) (d7 : o7.data = .cell v7) (d8 : o8.data = .cell v8)
    (I1 : IntsAre vs1 n1) (hz1 : n1.length ≤ 100) (I2 : IntsAre vs2 n2) (hz2 : n2.length ≤ 100)
    (ht : 12 ≤ s.toks)
    (next : ∀ (h' : Heap) (tk : Nat) (u' : Str → Option Value) (t1 t2 : Tok) (o3' o7' : Obj), Fr h₀ L h' (fun y => if y = "united" then some (.int (kd.map fun x => max (mny b n1 x) (mny b n2 x)).sum t1) else if y = "count" then some (.int 2 tc) else u' y) → News h₀ L h' [(K, PySem.W.listOf vk.toArray eK), (R, PySem.W.listOf (List.toArray [.ref r1, .ref r2]) eR), (r1, ({ cls := .type "tuple", data := .seq vs1.toArray f1 } : Obj)), (r2, ({ cls := .type "tuple", data := .seq vs2.toArray f2 } : Obj)), (H, PySem.W.listOf (List.toArray [.int z1 w1, .int z2 w2]) eH), (L + 1, o1), (L + 1 + 1, o2), (L + 1 + 1 + 1, o3'), (L + 1 + 1 + 1 + 1, o4), (L + 1 + 1 + 1 + 1 + 1, o5), (L + 1 + 1 + 1 + 1 + 1 + 1, o6), (L + 1 + 1 + 1 + 1 + 1 + 1 + 1, o7'), (L + 1 + 1 + 1 + 1 + 1 + 1 + 1 + 1, o8)] → o7'.data = .cell (some (.int (kd.map fun x => min (mny b n1 x) (mny b n2 x)).sum t2)) → (∃ v, o3'.data = .cell v) → 12 ≤ tk →
      wpAny (model prog w) A (execs (lawIs w 11) (lawEnv w L)) Q noE { s with heap := h', toks := tk }) :
    Hold (wpAny (model prog w) A (execs (lawIs w 9) (lawEnv w L)) Q noE s) := by
  refine ⟨?_⟩
  conv =>
    arg 3
    arg 1
    whnf
  conv =>
    arg 3
    arg 2
    whnf
  change wpAny _ _ (execs _ (envOfC (PySem.Str.ofString "law") _ L 387 (.ref 386))) _ _ _
  refine one_stmtT 12 ht ?_
  k_steps
  all_goals (try (with_reducible show Halt (wpAny _ _ _ _ _ _); refine Halt.mk ?_))
  (with_reducible rename Fr _ _ _ _ => Fz)
  (with_reducible rename News _ _ _ _ => Nz)
  refine ⟨rfl, fun ht => ?_⟩
  refine one_stmtT 12 ht ?_
  have Nz2 : News h₀ L _ [(K, _), (R, _), (r1, _), (r2, _), (H, _), (L + 1, _), (L + 1 + 1, _), (L + 1 + 1 + 1, _), (L + 1 + 1 + 1 + 1, _), (L + 1 + 1 + 1 + 1 + 1, _), (L + 1 + 1 + 1 + 1 + 1 + 1, _), (L + 1 + 1 + 1 + 1 + 1 + 1 + 1, _), (L + 1 + 1 + 1 + 1 + 1 + 1 + 1 + 1, _)] := news_pick Nz ⟨by k_mem, by k_mem, by k_mem, by k_mem, by k_mem, by k_mem, by k_mem, by k_mem, by k_mem, by k_mem, by k_mem, by k_mem, by k_mem, trivial⟩
  refine For_turns Fz ?_ (hE := PassesOwn.never)
  k_steps
  all_goals (try (with_reducible show Halt (wpAny _ _ _ _ _ _); refine Halt.mk ?_))
  refine turns_led (vs := vk) (lo := PySem.W.listOf vk.toArray eK) (n := eK) (fun i m nx => ∃ (p3 p7 : Obj) (t1 t2 : Tok), nx = [(K, PySem.W.listOf vk.toArray eK), (R, PySem.W.listOf (List.toArray [.ref r1, .ref r2]) eR), (r1, ({ cls := .type "tuple", data := .seq vs1.toArray f1 } : Obj)), (r2, ({ cls := .type "tuple", data := .seq vs2.toArray f2 } : Obj)), (H, PySem.W.listOf (List.toArray [.int z1 w1, .int z2 w2]) eH), (L + 1, o1), (L + 1 + 1, o2), (L + 1 + 1 + 1, p3), (L + 1 + 1 + 1 + 1, o4), (L + 1 + 1 + 1 + 1 + 1, o5), (L + 1 + 1 + 1 + 1 + 1 + 1, o6), (L + 1 + 1 + 1 + 1 + 1 + 1 + 1, p7), (L + 1 + 1 + 1 + 1 + 1 + 1 + 1 + 1, o8)] ∧ m "count" = some (.int 2 tc) ∧ m "united" = some (.int ((kd.take i).map fun x => max (mny b n1 x) (mny b n2 x)).sum t1) ∧ p7.data = .cell (some (.int ((kd.take i).map fun x => min (mny b n1 x) (mny b n2 x)).sum t2)) ∧ ∃ v, p3.data = .cell v) (by walk_at "m_hand") Fz Nz2 (by k_mem) rfl rfl ?_ ?_ ?_ ?_
  · exact ⟨_, _, _, _, rfl, rfl, rfl, by assumption, _, d3⟩
  · rintro i m nx ⟨p3, p7, t1, t2, rfl, _⟩
    k_mem
  · rintro i v m₁ nx h tk ⟨I, io⟩ hvi ⟨p3, p7, t1, t2, rfl, hmc, hmu, d7, v3', d3⟩ hne F1 N1
    obtain ⟨x, tx, rfl, hx⟩ : ∃ x tx, v = Value.int x tx ∧ kd[i]? = some x := by
      have hlt : i < kd.length := by rw [← IK.length]; exact (List.getElem?_eq_some_iff.mp hvi).1
      obtain ⟨tx, e⟩ := IK.get i kd[i] (List.getElem?_eq_getElem hlt)
      rw [hvi] at e
      exact ⟨_, _, Option.some.inj e, List.getElem?_eq_getElem hlt⟩
    have c1 : @Ne Nat (L + 1) I := hne (L + 1, _) (by k_mem)
    have c2 : @Ne Nat (L + 1 + 1) I := hne (L + 1 + 1, _) (by k_mem)
    have c3 : @Ne Nat (L + 1 + 1 + 1) I := hne (L + 1 + 1 + 1, _) (by k_mem)
    have c4 : @Ne Nat (L + 1 + 1 + 1 + 1) I := hne (L + 1 + 1 + 1 + 1, _) (by k_mem)
    have c5 : @Ne Nat (L + 1 + 1 + 1 + 1 + 1) I := hne (L + 1 + 1 + 1 + 1 + 1, _) (by k_mem)
    have c6 : @Ne Nat (L + 1 + 1 + 1 + 1 + 1 + 1) I := hne (L + 1 + 1 + 1 + 1 + 1 + 1, _) (by k_mem)
    have c7 : @Ne Nat (L + 1 + 1 + 1 + 1 + 1 + 1 + 1) I := hne (L + 1 + 1 + 1 + 1 + 1 + 1 + 1, _) (by k_mem)
    have c8 : @Ne Nat (L + 1 + 1 + 1 + 1 + 1 + 1 + 1 + 1) I := hne (L + 1 + 1 + 1 + 1 + 1 + 1 + 1 + 1, _) (by k_mem)
    have F2 : Fr h₀ L h _ := fr_as2 F1 hmc hmu
    have N2 : News h₀ L h [(K, PySem.W.listOf vk.toArray eK), (R, PySem.W.listOf (List.toArray [.ref r1, .ref r2]) eR), (r1, ({ cls := .type "tuple", data := .seq vs1.toArray f1 } : Obj)), (r2, ({ cls := .type "tuple", data := .seq vs2.toArray f2 } : Obj)), (H, PySem.W.listOf (List.toArray [.int z1 w1, .int z2 w2]) eH), (L + 1, o1), (L + 1 + 1, o2), (L + 1 + 1 + 1, p3), (L + 1 + 1 + 1 + 1, o4), (L + 1 + 1 + 1 + 1 + 1, o5), (L + 1 + 1 + 1 + 1 + 1 + 1, o6), (L + 1 + 1 + 1 + 1 + 1 + 1 + 1, p7), (L + 1 + 1 + 1 + 1 + 1 + 1 + 1 + 1, o8), (I, io)] := fun q hq => N1 q (by simpa using hq)
    clear Fz Nz Nz2 F1 N1
    k_steps
    all_goals (try (with_reducible show Halt (wpAny _ _ _ _ _ _); refine Halt.mk ?_))
    (with_reducible rename News _ _ _ _ => Ny)
    obtain ⟨G, g1, g2⟩ := pickR2 (fun l => mny b l x) (⟨vs1, ⟨_, Ny.get (show (r1, _) ∈ _ from by k_mem), rfl, f1, rfl⟩, I1⟩ : RowAt _ r1 n1) (⟨vs2, ⟨_, Ny.get (show (r2, _) ∈ _ from by k_mem), rfl, f2, rfl⟩, I2⟩ : RowAt _ r2 n2)
    refine ⟨intAssign (h₀ := h₀) G.g (by walk_at "m_hand") rfl rfl (by decide) rfl (by decide) rfl rfl rfl ?_⟩
    k_steps
    all_goals (try (with_reducible show Halt (wpAny _ _ _ _ _ _); refine Halt.mk ?_))
    (with_reducible rename Fr _ _ _ _ => Fy)
    (with_reducible rename News _ _ _ _ => Nw)
    refine ⟨⟨R, [.ref r1, .ref r2], _, _, rfl, ⟨_, Nw.get (show (R, _) ∈ _ from by k_mem), rfl, eR, rfl⟩, by simp, Fy, Nw, ?_, ?_⟩⟩
    · intro C v s₃ m₃ E' hv hn hm Fc Nc
      have X3 := X.keeps Fc.keep
      have T3 := T.keeps Fc.keep
      have g1c := Nc.get (show (L + 1, _) ∈ _ from by k_mem)
      have g3c := Nc.get (show (L + 1 + 1 + 1, _) ∈ _ from by k_mem)
      rcases List.mem_cons.mp hv with rfl | hv
      · have Rc : RowAt s₃.heap r1 n1 := ⟨vs1, ⟨_, Nc.get (show (r1, _) ∈ _ from by k_mem), rfl, f1, rfl⟩, I1⟩
        k_steps
        all_goals (try (with_reducible show Halt (wpAny _ _ _ _ _ _); refine Halt.mk ?_))
        refine gives_many X3 T3 (by walk_at "m_hand") (by k_room) (by walk_at "m_units") Rc hz1 _ _ ?_
        intro uv hv2 tkv kv
        exact ⟨⟨uv, by rw [g1]⟩, _, _, rfl, kv⟩
      rcases List.mem_cons.mp hv with rfl | hv
      · have Rc : RowAt s₃.heap r2 n2 := ⟨vs2, ⟨_, Nc.get (show (r2, _) ∈ _ from by k_mem), rfl, f2, rfl⟩, I2⟩
        k_steps
        all_goals (try (with_reducible show Halt (wpAny _ _ _ _ _ _); refine Halt.mk ?_))
        refine gives_many X3 T3 (by walk_at "m_hand") (by k_room) (by walk_at "m_units") Rc hz2 _ _ ?_
        intro uv hv2 tkv kv
        exact ⟨⟨uv, by rw [g2]⟩, _, _, rfl, kv⟩
      exact absurd hv (by simp)
    · intro D' h' tk' ts e F7 N7 hc7
      obtain ⟨q1, q2, rfl⟩ := counts2 hc7
      rw [g1, g2] at N7
      replace F7 : Fr h₀ L h' _ := F7
      replace N7 : News h₀ L h' _ := N7
      have D7 : @Ne Nat D' (L + 1 + 1 + 1 + 1 + 1 + 1 + 1) := news_ne N7 (.head _) (show (_, p7) ∈ _ from by k_mem) (by rw [d7]; exact fun q => nomatch q)
      clear Fy Nw
      k_steps
      all_goals (try (with_reducible show Halt (wpAny _ _ _ _ _ _); refine Halt.mk ?_))
      (with_reducible rename Fr _ _ _ _ => Fa)
      (with_reducible rename News _ _ _ _ => Na)
      refine kso_min Fa Na ⟨_, Na.get (show (D', _) ∈ _ from by k_mem), rfl, ⟨e, rfl⟩⟩ (.cons _ _ (.cons _ _ (.nil))) (Nat.zero_lt_succ _) (by walk_at "m_hand") ?_
      intro h8 M8 t8 tk8 F8 N8 hM hlow
      have eM := least2 hM hlow
      subst eM
      clear Fa Na hM hlow
      k_steps
      all_goals (try (with_reducible show Halt (wpAny _ _ _ _ _ _); refine Halt.mk ?_))
      (with_reducible rename Fr _ _ _ _ => Fa)
      (with_reducible rename News _ _ _ _ => Na)
      refine kso_max Fa Na ⟨_, Na.get (show (D', _) ∈ _ from by k_mem), rfl, ⟨e, rfl⟩⟩ (.cons _ _ (.cons _ _ (.nil))) (Nat.zero_lt_succ _) (by walk_at "m_hand") ?_
      intro h9 M9 t9 tk9 F9 N9 hM hlow
      have eM := most2 hM hlow
      subst eM
      clear Fa Na hM hlow
      k_steps
      all_goals (try (with_reducible show Halt (wpAny _ _ _ _ _ _); refine Halt.mk ?_))
      (with_reducible rename Fr _ _ _ _ => Fx)
      (with_reducible rename News _ _ _ _ => Nx)
      refine ⟨rfl, _, _, _, _, [(K, _), (R, _), (r1, _), (r2, _), (H, _), (L + 1, _), (L + 1 + 1, _), (L + 1 + 1 + 1, _), (L + 1 + 1 + 1 + 1, _), (L + 1 + 1 + 1 + 1 + 1, _), (L + 1 + 1 + 1 + 1 + 1 + 1, _), (L + 1 + 1 + 1 + 1 + 1 + 1 + 1, _), (L + 1 + 1 + 1 + 1 + 1 + 1 + 1 + 1, _)], rfl, Fx, Nx, SubL.mem ⟨by k_mem, by k_mem, by k_mem, by k_mem, by k_mem, by k_mem, by k_mem, by k_mem, by k_mem, by k_mem, by k_mem, by k_mem, by k_mem, trivial⟩, by k_mem, ?ne, _, _, ?t1, ?t2, rfl, rfl, ?u1, ?u2, _, by assumption⟩
      case u1 => rw [sum_take_succ _ hx]; rfl
      case u2 => rw [sum_take_succ _ hx]; assumption
      · intro p hp
        simp only [List.mem_cons, List.not_mem_nil, or_false] at hp
        rcases hp with rfl | rfl | rfl | rfl | rfl | rfl | rfl | rfl | rfl | rfl | rfl | rfl | rfl
        · exact hne (K, _) (by k_mem)
        · exact hne (R, _) (by k_mem)
        · exact hne (r1, _) (by k_mem)
        · exact hne (r2, _) (by k_mem)
        · exact hne (H, _) (by k_mem)
        · exact c1
        · exact c2
        · exact c3
        · exact c4
        · exact c5
        · exact c6
        · exact c7
        · exact c8
  · rintro m₁ nx h tk ⟨p3, p7, t1, t2, rfl, hmc, hmu, d7, v3', d3⟩ F1 N1
    refine ⟨rfl, fun ht => ?_⟩
    rw [show vk.length = kd.length from IK.length, List.take_length] at hmu d7
    exact @next _ _ _ t1 t2 _ _ (fr_as2 F1 hmc hmu) N1 d7 ⟨_, d3⟩ ht
theorem seg_shared3 {prog : Program} {w : World} {A : Around} {p : Program} {loose : List Str} {mg mb : Str → Option Value} {bm : Addr} {ob : Obj} {s : Shared} {h₀ : Heap} {L : Addr} {Q : Flow → Shared → Prop} {u : Str → Option Value} {tc : Tok} {R H r1 r2 r3 : Addr} {vs1 vs2 vs3 : List Value} {n1 n2 n3 : List Int} {eR eH f1 f2 f3 : Nat} {b : Bool} {z1 z2 z3 : Int} {w1 w2 w3 : Tok} {o1 o2 o3 o4 o5 o6 o7 o8 : Obj} {K : Addr} {vk : List Value} {eK : Nat} {kd : List Int} {v3 v4 v7 v8 : Option Value}
    (X : (hd.heap_39 w.params).In h₀) (T : TopRead p loose mg mb h₀) (hA : A.handled = none) (hd : A.depth + 90 < recursionLimit) (hu : A.units + 500 < cLine)
    (F : Fr h₀ L s.heap (fun y => if y = "count" then some (.int 3 tc) else u y))
    (N : News h₀ L s.heap [(K, PySem.W.listOf vk.toArray eK), (R, PySem.W.listOf (List.toArray [.ref r1, .ref r2, .ref r3]) eR), (r1, ({ cls := .type "tuple", data := .seq vs1.toArray f1 } : Obj)), (r2, ({ cls := .type "tuple", data := .seq vs2.toArray f2 } : Obj)), (r3, ({ cls := .type "tuple", data := .seq vs3.toArray f3 } : Obj)), (H, PySem.W.listOf (List.toArray [.int z1 w1, .int z2 w2, .int z3 w3]) eH), (L + 1, o1), (L + 1 + 1, o2), (L + 1 + 1 + 1, o3), (L + 1 + 1 + 1 + 1, o4), (L + 1 + 1 + 1 + 1 + 1, o5), (L + 1 + 1 + 1 + 1 + 1 + 1, o6), (L + 1 + 1 + 1 + 1 + 1 + 1 + 1, o7), (L + 1 + 1 + 1 + 1 + 1 + 1 + 1 + 1, o8)])
    (oR : (@LT.lt Nat _ R (L + 1) ∨ @LT.lt Nat _ (L + 8) R)) (or1 : (@LT.lt Nat _ r1 (L + 1) ∨ @LT.lt Nat _ (L + 8) r1)) (or2 : (@LT.lt Nat _ r2 (L + 1) ∨ @LT.lt Nat _ (L + 8) r2)) (or3 : (@LT.lt Nat _ r3 (L + 1) ∨ @LT.lt Nat _ (L + 8) r3)) (oH : (@LT.lt Nat _ H (L + 1) ∨ @LT.lt Nat _ (L + 8) H))
    (oK : (@LT.lt Nat _ K (L + 1) ∨ @LT.lt Nat _ (L + 8) K)) (IK : IntsAre vk kd) (hkd : kd.length ≤ 300)
    (d1 : o1.data = .cell (some (.bool b))) (d2 : o2.data = .cell (some (.ref H))) (d3 : o3.data = .cell v3) (d4 : o4.data = .cell v4) (d5 : o5.data = .cell (some (.ref R))) (d6 : o6.data = .cell (some (.ref K))) (d7 : o7.data = .cell v7) (d8 : o8.data = .cell v8)
    (I1 : IntsAre vs1 n1) (hz1 : n1.length ≤ 100) (I2 : IntsAre vs2 n2) (hz2 : n2.length ≤ 100) (I3 : IntsAre vs3 n3) (hz3 : n3.length ≤ 100)
    (ht : 12 ≤ s.toks)
    (next : ∀ (h' : Heap) (tk : Nat) (u' : Str → Option Value) (t1 t2 : Tok) (o3' o7' : Obj), Fr h₀ L h' (fun y => if y = "united" then some (.int (kd.map fun x => max (max (mny b n1 x) (mny b n2 x)) (mny b n3 x)).sum t1) else if y = "count" then some (.int 3 tc) else u' y) → News h₀ L h' [(K, PySem.W.listOf vk.toArray eK), (R, PySem.W.listOf (List.toArray [.ref r1, .ref r2, .ref r3]) eR), (r1, ({ cls := .type "tuple", data := .seq vs1.toArray f1 } : Obj)), (r2, ({ cls := .type "tuple", data := .seq vs2.toArray f2 } : Obj)), (r3, ({ cls := .type "tuple", data := .seq vs3.toArray f3 } : Obj)), (H, PySem.W.listOf (List.toArray [.int z1 w1, .int z2 w2, .int z3 w3]) eH), (L + 1, o1), (L + 1 + 1, o2), (L + 1 + 1 + 1, o3'), (L + 1 + 1 + 1 + 1, o4), (L + 1 + 1 + 1 + 1 + 1, o5), (L + 1 + 1 + 1 + 1 + 1 + 1, o6), (L + 1 + 1 + 1 + 1 + 1 + 1 + 1, o7'), (L + 1 + 1 + 1 + 1 + 1 + 1 + 1 + 1, o8)] → o7'.data = .cell (some (.int (kd.map fun x => min (min (mny b n1 x) (mny b n2 x)) (mny b n3 x)).sum t2)) → (∃ v, o3'.data = .cell v) → 12 ≤ tk →
      wpAny (model prog w) A (execs (lawIs w 11) (lawEnv w L)) Q noE { s with heap := h', toks := tk }) :
    Hold (wpAny (model prog w) A (execs (lawIs w 9) (lawEnv w L)) Q noE s) := by
  refine ⟨?_⟩
  conv =>
    arg 3
    arg 1
    whnf
  conv =>
    arg 3
    arg 2
    whnf
  change wpAny _ _ (execs _ (envOfC (PySem.Str.ofString "law") _ L 387 (.ref 386))) _ _ _
  refine one_stmtT 12 ht ?_
  k_steps
  all_goals (try (with_reducible show Halt (wpAny _ _ _ _ _ _); refine Halt.mk ?_))
  (with_reducible rename Fr _ _ _ _ => Fz)
  (with_reducible rename News _ _ _ _ => Nz)
  refine ⟨rfl, fun ht => ?_⟩
  refine one_stmtT 12 ht ?_
  have Nz2 : News h₀ L _ [(K, _), (R, _), (r1, _), (r2, _), (r3, _), (H, _), (L + 1, _), (L + 1 + 1, _), (L + 1 + 1 + 1, _), (L + 1 + 1 + 1 + 1, _), (L + 1 + 1 + 1 + 1 + 1, _), (L + 1 + 1 + 1 + 1 + 1 + 1, _), (L + 1 + 1 + 1 + 1 + 1 + 1 + 1, _), (L + 1 + 1 + 1 + 1 + 1 + 1 + 1 + 1, _)] := news_pick Nz ⟨by k_mem, by k_mem, by k_mem, by k_mem, by k_mem, by k_mem, by k_mem, by k_mem, by k_mem, by k_mem, by k_mem, by k_mem, by k_mem, by k_mem, trivial⟩
  refine For_turns Fz ?_ (hE := PassesOwn.never)
  k_steps
  all_goals (try (with_reducible show Halt (wpAny _ _ _ _ _ _); refine Halt.mk ?_))
  refine turns_led (vs := vk) (lo := PySem.W.listOf vk.toArray eK) (n := eK) (fun i m nx => ∃ (p3 p7 : Obj) (t1 t2 : Tok), nx = [(K, PySem.W.listOf vk.toArray eK), (R, PySem.W.listOf (List.toArray [.ref r1, .ref r2, .ref r3]) eR), (r1, ({ cls := .type "tuple", data := .seq vs1.toArray f1 } : Obj)), (r2, ({ cls := .type "tuple", data := .seq vs2.toArray f2 } : Obj)), (r3, ({ cls := .type "tuple", data := .seq vs3.toArray f3 } : Obj)), (H, PySem.W.listOf (List.toArray [.int z1 w1, .int z2 w2, .int z3 w3]) eH), (L + 1, o1), (L + 1 + 1, o2), (L + 1 + 1 + 1, p3), (L + 1 + 1 + 1 + 1, o4), (L + 1 + 1 + 1 + 1 + 1, o5), (L + 1 + 1 + 1 + 1 + 1 + 1, o6), (L + 1 + 1 + 1 + 1 + 1 + 1 + 1, p7), (L + 1 + 1 + 1 + 1 + 1 + 1 + 1 + 1, o8)] ∧ m "count" = some (.int 3 tc) ∧ m "united" = some (.int ((kd.take i).map fun x => max (max (mny b n1 x) (mny b n2 x)) (mny b n3 x)).sum t1) ∧ p7.data = .cell (some (.int ((kd.take i).map fun x => min (min (mny b n1 x) (mny b n2 x)) (mny b n3 x)).sum t2)) ∧ ∃ v, p3.data = .cell v) (by walk_at "m_hand") Fz Nz2 (by k_mem) rfl rfl ?_ ?_ ?_ ?_
  · exact ⟨_, _, _, _, rfl, rfl, rfl, by assumption, _, d3⟩
  · rintro i m nx ⟨p3, p7, t1, t2, rfl, _⟩
    k_mem
  · rintro i v m₁ nx h tk ⟨I, io⟩ hvi ⟨p3, p7, t1, t2, rfl, hmc, hmu, d7, v3', d3⟩ hne F1 N1
    obtain ⟨x, tx, rfl, hx⟩ : ∃ x tx, v = Value.int x tx ∧ kd[i]? = some x := by
      have hlt : i < kd.length := by rw [← IK.length]; exact (List.getElem?_eq_some_iff.mp hvi).1
      obtain ⟨tx, e⟩ := IK.get i kd[i] (List.getElem?_eq_getElem hlt)
      rw [hvi] at e
      exact ⟨_, _, Option.some.inj e, List.getElem?_eq_getElem hlt⟩
    have c1 : @Ne Nat (L + 1) I := hne (L + 1, _) (by k_mem)
    have c2 : @Ne Nat (L + 1 + 1) I := hne (L + 1 + 1, _) (by k_mem)
    have c3 : @Ne Nat (L + 1 + 1 + 1) I := hne (L + 1 + 1 + 1, _) (by k_mem)
    have c4 : @Ne Nat (L + 1 + 1 + 1 + 1) I := hne (L + 1 + 1 + 1 + 1, _) (by k_mem)
    have c5 : @Ne Nat (L + 1 + 1 + 1 + 1 + 1) I := hne (L + 1 + 1 + 1 + 1 + 1, _) (by k_mem)
    have c6 : @Ne Nat (L + 1 + 1 + 1 + 1 + 1 + 1) I := hne (L + 1 + 1 + 1 + 1 + 1 + 1, _) (by k_mem)
    have c7 : @Ne Nat (L + 1 + 1 + 1 + 1 + 1 + 1 + 1) I := hne (L + 1 + 1 + 1 + 1 + 1 + 1 + 1, _) (by k_mem)
    have c8 : @Ne Nat (L + 1 + 1 + 1 + 1 + 1 + 1 + 1 + 1) I := hne (L + 1 + 1 + 1 + 1 + 1 + 1 + 1 + 1, _) (by k_mem)
    have F2 : Fr h₀ L h _ := fr_as2 F1 hmc hmu
    have N2 : News h₀ L h [(K, PySem.W.listOf vk.toArray eK), (R, PySem.W.listOf (List.toArray [.ref r1, .ref r2, .ref r3]) eR), (r1, ({ cls := .type "tuple", data := .seq vs1.toArray f1 } : Obj)), (r2, ({ cls := .type "tuple", data := .seq vs2.toArray f2 } : Obj)), (r3, ({ cls := .type "tuple", data := .seq vs3.toArray f3 } : Obj)), (H, PySem.W.listOf (List.toArray [.int z1 w1, .int z2 w2, .int z3 w3]) eH), (L + 1, o1), (L + 1 + 1, o2), (L + 1 + 1 + 1, p3), (L + 1 + 1 + 1 + 1, o4), (L + 1 + 1 + 1 + 1 + 1, o5), (L + 1 + 1 + 1 + 1 + 1 + 1, o6), (L + 1 + 1 + 1 + 1 + 1 + 1 + 1, p7), (L + 1 + 1 + 1 + 1 + 1 + 1 + 1 + 1, o8), (I, io)] := fun q hq => N1 q (by simpa using hq)
    clear Fz Nz Nz2 F1 N1
    k_steps
    all_goals (try (with_reducible show Halt (wpAny _ _ _ _ _ _); refine Halt.mk ?_))
    (with_reducible rename News _ _ _ _ => Ny)
    obtain ⟨G, g1, g2, g3⟩ := pickR3 (fun l => mny b l x) (⟨vs1, ⟨_, Ny.get (show (r1, _) ∈ _ from by k_mem), rfl, f1, rfl⟩, I1⟩ : RowAt _ r1 n1) (⟨vs2, ⟨_, Ny.get (show (r2, _) ∈ _ from by k_mem), rfl, f2, rfl⟩, I2⟩ : RowAt _ r2 n2) (⟨vs3, ⟨_, Ny.get (show (r3, _) ∈ _ from by k_mem), rfl, f3, rfl⟩, I3⟩ : RowAt _ r3 n3)
    refine ⟨intAssign (h₀ := h₀) G.g (by walk_at "m_hand") rfl rfl (by decide) rfl (by decide) rfl rfl rfl ?_⟩
    k_steps
    all_goals (try (with_reducible show Halt (wpAny _ _ _ _ _ _); refine Halt.mk ?_))
    (with_reducible rename Fr _ _ _ _ => Fy)
    (with_reducible rename News _ _ _ _ => Nw)
    refine ⟨⟨R, [.ref r1, .ref r2, .ref r3], _, _, rfl, ⟨_, Nw.get (show (R, _) ∈ _ from by k_mem), rfl, eR, rfl⟩, by simp, Fy, Nw, ?_, ?_⟩⟩
    · intro C v s₃ m₃ E' hv hn hm Fc Nc
      have X3 := X.keeps Fc.keep
      have T3 := T.keeps Fc.keep
      have g1c := Nc.get (show (L + 1, _) ∈ _ from by k_mem)
      have g3c := Nc.get (show (L + 1 + 1 + 1, _) ∈ _ from by k_mem)
      rcases List.mem_cons.mp hv with rfl | hv
      · have Rc : RowAt s₃.heap r1 n1 := ⟨vs1, ⟨_, Nc.get (show (r1, _) ∈ _ from by k_mem), rfl, f1, rfl⟩, I1⟩
        k_steps
        all_goals (try (with_reducible show Halt (wpAny _ _ _ _ _ _); refine Halt.mk ?_))
        refine gives_many X3 T3 (by walk_at "m_hand") (by k_room) (by walk_at "m_units") Rc hz1 _ _ ?_
        intro uv hv2 tkv kv
        exact ⟨⟨uv, by rw [g1]⟩, _, _, rfl, kv⟩
      rcases List.mem_cons.mp hv with rfl | hv
      · have Rc : RowAt s₃.heap r2 n2 := ⟨vs2, ⟨_, Nc.get (show (r2, _) ∈ _ from by k_mem), rfl, f2, rfl⟩, I2⟩
        k_steps
        all_goals (try (with_reducible show Halt (wpAny _ _ _ _ _ _); refine Halt.mk ?_))
        refine gives_many X3 T3 (by walk_at "m_hand") (by k_room) (by walk_at "m_units") Rc hz2 _ _ ?_
        intro uv hv2 tkv kv
        exact ⟨⟨uv, by rw [g2]⟩, _, _, rfl, kv⟩
      rcases List.mem_cons.mp hv with rfl | hv
      · have Rc : RowAt s₃.heap r3 n3 := ⟨vs3, ⟨_, Nc.get (show (r3, _) ∈ _ from by k_mem), rfl, f3, rfl⟩, I3⟩
        k_steps
        all_goals (try (with_reducible show Halt (wpAny _ _ _ _ _ _); refine Halt.mk ?_))
        refine gives_many X3 T3 (by walk_at "m_hand") (by k_room) (by walk_at "m_units") Rc hz3 _ _ ?_
        intro uv hv2 tkv kv
        exact ⟨⟨uv, by rw [g3]⟩, _, _, rfl, kv⟩
      exact absurd hv (by simp)
    · intro D' h' tk' ts e F7 N7 hc7
      obtain ⟨q1, q2, q3, rfl⟩ := counts3 hc7
      rw [g1, g2, g3] at N7
      replace F7 : Fr h₀ L h' _ := F7
      replace N7 : News h₀ L h' _ := N7
      have D7 : @Ne Nat D' (L + 1 + 1 + 1 + 1 + 1 + 1 + 1) := news_ne N7 (.head _) (show (_, p7) ∈ _ from by k_mem) (by rw [d7]; exact fun q => nomatch q)
      clear Fy Nw
      k_steps
      all_goals (try (with_reducible show Halt (wpAny _ _ _ _ _ _); refine Halt.mk ?_))
      (with_reducible rename Fr _ _ _ _ => Fa)
      (with_reducible rename News _ _ _ _ => Na)
      refine kso_min Fa Na ⟨_, Na.get (show (D', _) ∈ _ from by k_mem), rfl, ⟨e, rfl⟩⟩ (.cons _ _ (.cons _ _ (.cons _ _ (.nil)))) (Nat.zero_lt_succ _) (by walk_at "m_hand") ?_
      intro h8 M8 t8 tk8 F8 N8 hM hlow
      have eM := least3 hM hlow
      subst eM
      clear Fa Na hM hlow
      k_steps
      all_goals (try (with_reducible show Halt (wpAny _ _ _ _ _ _); refine Halt.mk ?_))
      (with_reducible rename Fr _ _ _ _ => Fa)
      (with_reducible rename News _ _ _ _ => Na)
      refine kso_max Fa Na ⟨_, Na.get (show (D', _) ∈ _ from by k_mem), rfl, ⟨e, rfl⟩⟩ (.cons _ _ (.cons _ _ (.cons _ _ (.nil)))) (Nat.zero_lt_succ _) (by walk_at "m_hand") ?_
      intro h9 M9 t9 tk9 F9 N9 hM hlow
      have eM := most3 hM hlow
      subst eM
      clear Fa Na hM hlow
      k_steps
      all_goals (try (with_reducible show Halt (wpAny _ _ _ _ _ _); refine Halt.mk ?_))
      (with_reducible rename Fr _ _ _ _ => Fx)
      (with_reducible rename News _ _ _ _ => Nx)
      refine ⟨rfl, _, _, _, _, [(K, _), (R, _), (r1, _), (r2, _), (r3, _), (H, _), (L + 1, _), (L + 1 + 1, _), (L + 1 + 1 + 1, _), (L + 1 + 1 + 1 + 1, _), (L + 1 + 1 + 1 + 1 + 1, _), (L + 1 + 1 + 1 + 1 + 1 + 1, _), (L + 1 + 1 + 1 + 1 + 1 + 1 + 1, _), (L + 1 + 1 + 1 + 1 + 1 + 1 + 1 + 1, _)], rfl, Fx, Nx, SubL.mem ⟨by k_mem, by k_mem, by k_mem, by k_mem, by k_mem, by k_mem, by k_mem, by k_mem, by k_mem, by k_mem, by k_mem, by k_mem, by k_mem, by k_mem, trivial⟩, by k_mem, ?ne, _, _, ?t1, ?t2, rfl, rfl, ?u1, ?u2, _, by assumption⟩
      case u1 => rw [sum_take_succ _ hx]; rfl
      case u2 => rw [sum_take_succ _ hx]; assumption
      · intro p hp
        simp only [List.mem_cons, List.not_mem_nil, or_false] at hp
        rcases hp with rfl | rfl | rfl | rfl | rfl | rfl | rfl | rfl | rfl | rfl | rfl | rfl | rfl | rfl
        · exact hne (K, _) (by k_mem)
        · exact hne (R, _) (by k_mem)
        · exact hne (r1, _) (by k_mem)
        · exact hne (r2, _) (by k_mem)
        · exact hne (r3, _) (by k_mem)
        · exact hne (H, _) (by k_mem)
        · exact c1
        · exact c2
        · exact c3
        · exact c4
        · exact c5
        · exact c6
        · exact c7
        · exact c8
  · rintro m₁ nx h tk ⟨p3, p7, t1, t2, rfl, hmc, hmu, d7, v3', d3⟩ F1 N1
    refine ⟨rfl, fun ht => ?_⟩
    rw [show vk.length = kd.length from IK.length, List.take_length] at hmu d7
    exact @next _ _ _ t1 t2 _ _ (fr_as2 F1 hmc hmu) N1 d7 ⟨_, d3⟩ ht

end

open PySem PySem.W PySem.Calls PyProof.Rows
set_option maxHeartbeats 4000000
section
variable {prog : Program} {w : World} {A : Around} {E : Value → Shared → Prop} {s : Shared}
theorem sumKeep {l : Addr} {vs : List Value} {ns : List Int} {Q : Value → Shared → Prop} (hh : A.handled = none) (hl : s.heap.IsList l vs.toArray) (hi : IntsAre vs ns)
    (h : ∀ h' tk t', (∀ b o, s.heap.get? b = some o → h'.get? b = some o) → Q (.int ns.sum t') { s with heap := h', toks := tk }) : wpAny (model prog w) A (call (.builtin "sum") [.ref l]) Q E s := by
  obtain ⟨xs, hx⟩ := hi.allInts.items
  have hl' : s.heap.IsList l (intItems xs) := hx ▸ hl
  refine sum_intListG hh hl' fun h' tk t' hk => ?_
  have e1 : ns = xs.toList.map (·.1) := by
    rw [← nums_intItems, ← hx]
    exact hi.numsOf.symm
  have e2 : preSum (numAt xs) xs.size = ns.sum := by
    rw [preSum_eq, List.take_of_length_le (by simp), e1]
  rw [e2]
  exact h h' tk t' hk
theorem ints_mny {b : Bool} {n : List Int} : ∀ {vs ts : List Value} {kd : List Int}, IntsAre vs kd → Paired (fun v y => ∃ a t u, v = Value.int a t ∧ y = Value.int (mny b n a) u) vs ts → IntsAre ts (kd.map (mny b n))
  | _, _, _, .nil, .nil => .nil
  | _, _, _, .cons k t hi, .cons h1 h2 => by
    obtain ⟨a, t', u, e, rfl⟩ := h1
    cases e
    exact .cons _ _ (ints_mny hi h2)
theorem filter_tt {α : Type} (l : List α) : (l.filter fun _ => true) = l := List.filter_eq_self.mpr fun _ _ => rfl
theorem items_same {vs vs' : List Value} {n : Nat} (hn : vs.length = n) (hlen : vs'.length = n) (h : ∀ (j : Nat) (v : Value), vs'[j]? = some v → vs[j]? = some v) : vs' = vs := by
  refine List.ext_getElem? fun j => ?_
  cases hj : vs'[j]? with
  | some v => exact (h j v hj).symm
  | none =>
    have : vs'.length ≤ j := by simpa using hj
    rw [List.getElem?_eq_none (by omega)]
end
local macro_rules | `(tactic| walk_at "call builtin:sum") => `(tactic| (k_here; (with_reducible show wpAny _ _ (call _ [Value.ref _]) _ _ _); refine Hold.out ?_))

section
open PySem PySem.W PySem.Calls PyProof.Rows
set_option maxHeartbeats 4000000
theorem seg_sizes2 {prog : Program} {w : World} {A : Around} {p : Program} {loose : List Str} {mg mb : Str → Option Value} {bm : Addr} {ob : Obj} {s : Shared} {h₀ : Heap} {L : Addr} {Q : Flow → Shared → Prop} {u : Str → Option Value} {tc : Tok} {R H r1 r2 : Addr} {vs1 vs2 : List Value} {n1 n2 : List Int} {eR eH f1 f2 : Nat} {b : Bool} {z1 z2 : Int} {w1 w2 : Tok} {o1 o2 o3 o4 o5 o6 o7 o8 : Obj} {K : Addr} {vk : List Value} {eK : Nat} {kd : List Int} {v3 v4 v8 : Option Value} {zU zS : Int} {tU tS : Tok}
    (X : (hd.heap_39 w.params).In h₀) (T : TopRead p loose mg mb h₀) (hA : A.handled = none) (hd : A.depth + 90 < recursionLimit) (hu : A.units + 500 < cLine)
    (F : Fr h₀ L s.heap (fun y => if y = "united" then some (.int zU tU) else if y = "count" then some (.int 2 tc) else u y))
    (N : News h₀ L s.heap [(K, PySem.W.listOf vk.toArray eK), (R, PySem.W.listOf (List.toArray [.ref r1, .ref r2]) eR), (r1, ({ cls := .type "tuple", data := .seq vs1.toArray f1 } : Obj)), (r2, ({ cls := .type "tuple", data := .seq vs2.toArray f2 } : Obj)), (H, PySem.W.listOf (List.toArray [.int z1 w1, .int z2 w2]) eH), (L + 1, o1), (L + 1 + 1, o2), (L + 1 + 1 + 1, o3), (L + 1 + 1 + 1 + 1, o4), (L + 1 + 1 + 1 + 1 + 1, o5), (L + 1 + 1 + 1 + 1 + 1 + 1, o6), (L + 1 + 1 + 1 + 1 + 1 + 1 + 1, o7), (L + 1 + 1 + 1 + 1 + 1 + 1 + 1 + 1, o8)])
    (oR : (@LT.lt Nat _ R (L + 1) ∨ @LT.lt Nat _ (L + 8) R)) (or1 : (@LT.lt Nat _ r1 (L + 1) ∨ @LT.lt Nat _ (L + 8) r1)) (or2 : (@LT.lt Nat _ r2 (L + 1) ∨ @LT.lt Nat _ (L + 8) r2)) (oH : (@LT.lt Nat _ H (L + 1) ∨ @LT.lt Nat _ (L + 8) H))
    (oK : (@LT.lt Nat _ K (L + 1) ∨ @LT.lt Nat _ (L + 8) K)) (IK : IntsAre vk kd) (hkd : kd.length ≤ 300)
    (d1 : o1.data = .cell (some (.bool b))) (d2 : o2.data = .cell (some (.ref H))) (d3 : o3.data = .cell v3) (d4 : o4.data = .cell v4) (d5 : o5.data = .cell (some (.ref R))) (d6 : o6.data = .cell (some (.ref K))) (d7 : o7.data = .cell (some (.int zS tS))) (d8 : o8.data = .cell v8)
    (I1 : IntsAre vs1 n1) (hz1 : n1.length ≤ 100) (I2 : IntsAre vs2 n2) (hz2 : n2.length ≤ 100)
    (ht : 12 ≤ s.toks)
    (next : ∀ (h' : Heap) (tk : Nat) (u' : Str → Option Value) (Z : Addr) (eZ : Nat) (x1 x2 : Tok) (o8' : Obj), Fr h₀ L h' (fun y => if y = "united" then some (.int zU tU) else if y = "count" then some (.int 2 tc) else u' y) → News h₀ L h' [(Z, PySem.W.listOf (List.toArray [.int (kd.map (mny b n1)).sum x1, .int (kd.map (mny b n2)).sum x2]) eZ), (K, PySem.W.listOf vk.toArray eK), (R, PySem.W.listOf (List.toArray [.ref r1, .ref r2]) eR), (r1, ({ cls := .type "tuple", data := .seq vs1.toArray f1 } : Obj)), (r2, ({ cls := .type "tuple", data := .seq vs2.toArray f2 } : Obj)), (H, PySem.W.listOf (List.toArray [.int z1 w1, .int z2 w2]) eH), (L + 1, o1), (L + 1 + 1, o2), (L + 1 + 1 + 1, o3), (L + 1 + 1 + 1 + 1, o4), (L + 1 + 1 + 1 + 1 + 1, o5), (L + 1 + 1 + 1 + 1 + 1 + 1, o6), (L + 1 + 1 + 1 + 1 + 1 + 1 + 1, o7), (L + 1 + 1 + 1 + 1 + 1 + 1 + 1 + 1, o8')] → (@LT.lt Nat _ Z (L + 1) ∨ @LT.lt Nat _ (L + 8) Z) → o8'.data = .cell (some (.ref Z)) → 12 ≤ tk →
      wpAny (model prog w) A (execs (lawIs w 12) (lawEnv w L)) Q noE { s with heap := h', toks := tk }) :
    Hold (wpAny (model prog w) A (execs (lawIs w 11) (lawEnv w L)) Q noE s) := by
  refine ⟨?_⟩
  conv =>
    arg 3
    arg 1
    whnf
  conv =>
    arg 3
    arg 2
    whnf
  change wpAny _ _ (execs _ (envOfC (PySem.Str.ofString "law") _ L 387 (.ref 386))) _ _ _
  refine one_stmtT 12 ht ?_
  k_steps
  refine ⟨cellComp (h₀ := h₀) (by walk_at "m_hand") rfl (by intros; rfl) (by intros; rfl) rfl (by decide) (by intros; rfl) ?_⟩
  k_steps
  (with_reducible rename Fr _ _ _ _ => Fy)
  (with_reducible rename News _ _ _ _ => Nw)
  refine ⟨⟨R, [.ref r1, .ref r2], fun i => if i = 0 then (kd.map (mny b n1)).sum else (kd.map (mny b n2)).sum, _, _, rfl, ⟨_, Nw.get (show (R, _) ∈ _ from by k_mem), rfl, eR, rfl⟩, by simp, Fy, Nw, ?_, ?_⟩⟩
  · intro C cx oc i v s₃ m₃ E' hvi hoc Fc Nc
    obtain ⟨r, ns, rfl, hfi, Rr, hzr⟩ : ∃ (r : Addr) (ns : List Int), v = .ref r ∧ (kd.map (mny b ns)).sum = (if i = 0 then (kd.map (mny b n1)).sum else (kd.map (mny b n2)).sum) ∧ (∀ (h : Heap) (L' : Addr) (nw : List (Addr × Obj)), News h₀ L' h nw → SubL [(r1, ({ cls := .type "tuple", data := .seq vs1.toArray f1 } : Obj)), (r2, ({ cls := .type "tuple", data := .seq vs2.toArray f2 } : Obj))] nw → RowAt h r ns) ∧ ns.length ≤ 100 := by
      rcases i with _ | _ | i
      · cases hvi; exact ⟨r1, n1, rfl, rfl, fun h L' nw N hs => ⟨vs1, ⟨_, N.get (hs.mem _ (show (r1, _) ∈ _ from by k_mem)), rfl, f1, rfl⟩, I1⟩, hz1⟩
      · cases hvi; exact ⟨r2, n2, rfl, rfl, fun h L' nw N hs => ⟨vs2, ⟨_, N.get (hs.mem _ (show (r2, _) ∈ _ from by k_mem)), rfl, f2, rfl⟩, I2⟩, hz2⟩
      · cases hvi
    show wpAny _ _ _ (fun y s₄ => (∃ u, y = Value.int (if i = 0 then (kd.map (mny b n1)).sum else (kd.map (mny b n2)).sum) u) ∧ Keeps s₃ s₄) _ _
    rw [← hfi]
    have hn := Fc.ns
    have X3 := X.keeps Fc.keep
    have T3 := T.keeps Fc.keep
    have gx := Nc.get (.head _)
    have g1 := Nc.get (show (L + 1, _) ∈ _ from by k_mem)
    have g6 := Nc.get (show (L + 1 + 1 + 1 + 1 + 1 + 1, _) ∈ _ from by k_mem)
    clear Fy Nw
    k_steps
    refine ⟨anyComp (h₀ := h₀) (fun _ => true) (fun v y => ∃ a t u, v = Value.int a t ∧ y = Value.int (mny b ns a) u) rfl (by decide) rfl (by decide) rfl ?_⟩
    k_steps
    have hvk := IK.length
    refine ⟨⟨m₃, _, _, _, Fc, Nc, src_list (by walk_at "m_hand") ⟨_, Nc.get (show (K, _) ∈ _ from by k_mem), rfl, eK, rfl⟩, by omega, ?_, ?_, ?_⟩⟩
    · intro C2 j v2 s₄ m₄ E2 hvj hm F4 N4
      rw [List.forIn_nil]
      exact wpAny_pure ⟨rfl, _, _, rfl, fun _ _ e => e⟩
    · intro C2 j v2 s₄ m₄ E2 hvj hp hm F4 N4
      obtain ⟨a, ta, rfl⟩ : ∃ a ta, v2 = Value.int a ta := by
        have hlt : j < kd.length := by rw [← IK.length]; exact (List.getElem?_eq_some_iff.mp hvj).1
        obtain ⟨ta, e⟩ := IK.get j kd[j] (List.getElem?_eq_getElem hlt)
        rw [hvj] at e
        exact ⟨_, _, Option.some.inj e⟩
      have hn4 := F4.ns
      have X4 := X.keeps F4.keep
      have T4 := T.keeps F4.keep
      have gx4 := N4.get (.head _)
      have g14 := N4.get (show (L + 1, _) ∈ _ from by k_mem)
      have R4 : RowAt s₄.heap r ns := Rr _ _ _ N4 ⟨by k_mem, by k_mem, trivial⟩
      k_steps
      refine gives_many X4 T4 (by walk_at "m_hand") (by k_room) (by walk_at "m_units") R4 hzr _ _ ?_
      intro uv hv2 tkv kv
      exact ⟨⟨_, _, uv, rfl, rfl⟩, _, _, rfl, kv⟩
    · intro D h5 tk5 ts vs' e hD F5 N5 hlen hvs hP hkD
      have ev := items_same rfl hlen hvs
      subst ev
      rw [filter_tt] at hP
      have It := ints_mny IK hP
      k_steps
      refine ⟨sumKeep (by walk_at "m_hand") ⟨_, N5.get (.head _), rfl, _, rfl⟩ It fun h6 tk6 t6 k6 => ?_⟩
      exact ⟨⟨_, rfl⟩, _, _, rfl, fun b o q => k6 b o (hkD b o q)⟩
  · intro Z h' tk' ts e hZ F7 N7 hlen hts
    replace F7 : Fr h₀ L h' _ := F7
    replace N7 : News h₀ L h' _ := N7
    have oZ := off_cells8 Nw hZ (by k_mem) (by k_mem) (by k_mem) (by k_mem) (by k_mem) (by k_mem) (by k_mem) (by k_mem)
    obtain ⟨y1, y2, rfl⟩ : ∃ y1 y2, ts = [y1, y2] := by
      rcases ts with _ | ⟨y1, _ | ⟨y2, _ | ⟨y3, ts⟩⟩⟩ <;> simp at hlen
      exact ⟨y1, y2, rfl⟩
    obtain ⟨x1, e1⟩ := hts 0 y1 rfl
    obtain ⟨x2, e2⟩ := hts 1 y2 rfl
    simp only [if_true, if_neg (show ¬ (1 : Nat) = 0 by decide)] at e1 e2
    subst e1 e2
    clear Fy Nw
    k_steps
    (with_reducible rename Fr _ _ _ _ => Fx)
    (with_reducible rename News _ _ _ _ => Nx)
    refine ⟨rfl, fun ht => ?_⟩
    exact @next _ _ _ Z e x1 x2 _ (fr_as2 (x := ("count" : Str)) (y := ("united" : Str)) Fx rfl rfl) Nx oZ (by assumption) ht
theorem seg_sizes3 {prog : Program} {w : World} {A : Around} {p : Program} {loose : List Str} {mg mb : Str → Option Value} {bm : Addr} {ob : Obj} {s : Shared} {h₀ : Heap} {L : Addr} {Q : Flow → Shared → Prop} {u : Str → Option Value} {tc : Tok} {R H r1 r2 r3 : Addr} {vs1 vs2 vs3 : List Value} {n1 n2 n3 : List Int} {eR eH f1 f2 f3 : Nat} {b : Bool} {z1 z2 z3 : Int} {w1 w2 w3 : Tok} {o1 o2 o3 o4 o5 o6 o7 o8 : Obj} {K : Addr} {vk : List Value} {eK : Nat} {kd : List Int} {v3 v4 v8 : Option Value} {zU zS : Int} {tU tS : Tok}
    (X : (hd.heap_39 w.params).In h₀) (T : TopRead p loose mg mb h₀) (hA : A.handled = none) (hd : A.depth + 90 < recursionLimit) (hu : A.units + 500 < cLine)
    (F : Fr h₀ L s.heap (fun y => if y = "united" then some (.int zU tU) else if y = "count" then some (.int 3 tc) else u y))
    (N : News h₀ L s.heap [(K, PySem.W.listOf vk.toArray eK), (R, PySem.W.listOf (List.toArray [.ref r1, .ref r2, .ref r3]) eR), (r1, ({ cls := .type "tuple", data := .seq vs1.toArray f1 } : Obj)), (r2, ({ cls := .type "tuple", data := .seq vs2.toArray f2 } : Obj)), (r3, ({ cls := .type "tuple", data := .seq vs3.toArray f3 } : Obj)), (H, PySem.W.listOf (List.toArray [.int z1 w1, .int z2 w2, .int z3 w3]) eH), (L + 1, o1), (L + 1 + 1, o2), (L + 1 + 1 + 1, o3), (L + 1 + 1 + 1 + 1, o4), (L + 1 + 1 + 1 + 1 + 1, o5), (L + 1 + 1 + 1 + 1 + 1 + 1, o6), (L + 1 + 1 + 1 + 1 + 1 + 1 + 1, o7), (L + 1 + 1 + 1 + 1 + 1 + 1 + 1 + 1, o8)])
    (oR : (@LT.lt Nat _ R (L + 1) ∨ @LT.lt Nat _ (L + 8) R)) (or1 : (@LT.lt Nat _ r1 (L + 1) ∨ @LT.lt Nat _ (L + 8) r1)) (or2 : (@LT.lt Nat _ r2 (L + 1) ∨ @LT.lt Nat _ (L + 8) r2)) (or3 : (@LT.lt Nat _ r3 (L + 1) ∨ @LT.lt Nat _ (L + 8) r3)) (oH : (@LT.lt Nat _ H (L + 1) ∨ @LT.lt Nat _ (L + 8) H))
    (oK : (@LT.lt Nat _ K (L + 1) ∨ @LT.lt Nat _ (L + 8) K)) (IK : IntsAre vk kd) (hkd : kd.length ≤ 300)
    (d1 : o1.data = .cell (some (.bool b))) (d2 : o2.data = .cell (some (.ref H))) (d3 : o3.data = .cell v3) (d4 : o4.data = .cell v4) (d5 : o5.data = .cell (some (.ref R))) (d6 : o6.data = .cell (some (.ref K))) (d7 : o7.data = .cell (some (.int zS tS))) (d8 : o8.data = .cell v8)
    (I1 : IntsAre vs1 n1) (hz1 : n1.length ≤ 100) (I2 : IntsAre vs2 n2) (hz2 : n2.length ≤ 100) (I3 : IntsAre vs3 n3) (hz3 : n3.length ≤ 100)
    (ht : 12 ≤ s.toks)
    (next : ∀ (h' : Heap) (tk : Nat) (u' : Str → Option Value) (Z : Addr) (eZ : Nat) (x1 x2 x3 : Tok) (o8' : Obj), Fr h₀ L h' (fun y => if y = "united" then some (.int zU tU) else if y = "count" then some (.int 3 tc) else u' y) → News h₀ L h' [(Z, PySem.W.listOf (List.toArray [.int (kd.map (mny b n1)).sum x1, .int (kd.map (mny b n2)).sum x2, .int (kd.map (mny b n3)).sum x3]) eZ), (K, PySem.W.listOf vk.toArray eK), (R, PySem.W.listOf (List.toArray [.ref r1, .ref r2, .ref r3]) eR), (r1, ({ cls := .type "tuple", data := .seq vs1.toArray f1 } : Obj)), (r2, ({ cls := .type "tuple", data := .seq vs2.toArray f2 } : Obj)), (r3, ({ cls := .type "tuple", data := .seq vs3.toArray f3 } : Obj)), (H, PySem.W.listOf (List.toArray [.int z1 w1, .int z2 w2, .int z3 w3]) eH), (L + 1, o1), (L + 1 + 1, o2), (L + 1 + 1 + 1, o3), (L + 1 + 1 + 1 + 1, o4), (L + 1 + 1 + 1 + 1 + 1, o5), (L + 1 + 1 + 1 + 1 + 1 + 1, o6), (L + 1 + 1 + 1 + 1 + 1 + 1 + 1, o7), (L + 1 + 1 + 1 + 1 + 1 + 1 + 1 + 1, o8')] → (@LT.lt Nat _ Z (L + 1) ∨ @LT.lt Nat _ (L + 8) Z) → o8'.data = .cell (some (.ref Z)) → 12 ≤ tk →
      wpAny (model prog w) A (execs (lawIs w 12) (lawEnv w L)) Q noE { s with heap := h', toks := tk }) :
    Hold (wpAny (model prog w) A (execs (lawIs w 11) (lawEnv w L)) Q noE s) := by
  refine ⟨?_⟩
  conv =>
    arg 3
    arg 1
    whnf
  conv =>
    arg 3
    arg 2
    whnf
  change wpAny _ _ (execs _ (envOfC (PySem.Str.ofString "law") _ L 387 (.ref 386))) _ _ _
  refine one_stmtT 12 ht ?_
  k_steps
  refine ⟨cellComp (h₀ := h₀) (by walk_at "m_hand") rfl (by intros; rfl) (by intros; rfl) rfl (by decide) (by intros; rfl) ?_⟩
  k_steps
  (with_reducible rename Fr _ _ _ _ => Fy)
  (with_reducible rename News _ _ _ _ => Nw)
  refine ⟨⟨R, [.ref r1, .ref r2, .ref r3], fun i => if i = 0 then (kd.map (mny b n1)).sum else if i = 1 then (kd.map (mny b n2)).sum else (kd.map (mny b n3)).sum, _, _, rfl, ⟨_, Nw.get (show (R, _) ∈ _ from by k_mem), rfl, eR, rfl⟩, by simp, Fy, Nw, ?_, ?_⟩⟩
  · intro C cx oc i v s₃ m₃ E' hvi hoc Fc Nc
    obtain ⟨r, ns, rfl, hfi, Rr, hzr⟩ : ∃ (r : Addr) (ns : List Int), v = .ref r ∧ (kd.map (mny b ns)).sum = (if i = 0 then (kd.map (mny b n1)).sum else if i = 1 then (kd.map (mny b n2)).sum else (kd.map (mny b n3)).sum) ∧ (∀ (h : Heap) (L' : Addr) (nw : List (Addr × Obj)), News h₀ L' h nw → SubL [(r1, ({ cls := .type "tuple", data := .seq vs1.toArray f1 } : Obj)), (r2, ({ cls := .type "tuple", data := .seq vs2.toArray f2 } : Obj)), (r3, ({ cls := .type "tuple", data := .seq vs3.toArray f3 } : Obj))] nw → RowAt h r ns) ∧ ns.length ≤ 100 := by
      rcases i with _ | _ | _ | i
      · cases hvi; exact ⟨r1, n1, rfl, rfl, fun h L' nw N hs => ⟨vs1, ⟨_, N.get (hs.mem _ (show (r1, _) ∈ _ from by k_mem)), rfl, f1, rfl⟩, I1⟩, hz1⟩
      · cases hvi; exact ⟨r2, n2, rfl, rfl, fun h L' nw N hs => ⟨vs2, ⟨_, N.get (hs.mem _ (show (r2, _) ∈ _ from by k_mem)), rfl, f2, rfl⟩, I2⟩, hz2⟩
      · cases hvi; exact ⟨r3, n3, rfl, rfl, fun h L' nw N hs => ⟨vs3, ⟨_, N.get (hs.mem _ (show (r3, _) ∈ _ from by k_mem)), rfl, f3, rfl⟩, I3⟩, hz3⟩
      · cases hvi
    show wpAny _ _ _ (fun y s₄ => (∃ u, y = Value.int (if i = 0 then (kd.map (mny b n1)).sum else if i = 1 then (kd.map (mny b n2)).sum else (kd.map (mny b n3)).sum) u) ∧ Keeps s₃ s₄) _ _
    rw [← hfi]
    have hn := Fc.ns
    have X3 := X.keeps Fc.keep
    have T3 := T.keeps Fc.keep
    have gx := Nc.get (.head _)
    have g1 := Nc.get (show (L + 1, _) ∈ _ from by k_mem)
    have g6 := Nc.get (show (L + 1 + 1 + 1 + 1 + 1 + 1, _) ∈ _ from by k_mem)
    clear Fy Nw
    k_steps
    refine ⟨anyComp (h₀ := h₀) (fun _ => true) (fun v y => ∃ a t u, v = Value.int a t ∧ y = Value.int (mny b ns a) u) rfl (by decide) rfl (by decide) rfl ?_⟩
    k_steps
    have hvk := IK.length
    refine ⟨⟨m₃, _, _, _, Fc, Nc, src_list (by walk_at "m_hand") ⟨_, Nc.get (show (K, _) ∈ _ from by k_mem), rfl, eK, rfl⟩, by omega, ?_, ?_, ?_⟩⟩
    · intro C2 j v2 s₄ m₄ E2 hvj hm F4 N4
      rw [List.forIn_nil]
      exact wpAny_pure ⟨rfl, _, _, rfl, fun _ _ e => e⟩
    · intro C2 j v2 s₄ m₄ E2 hvj hp hm F4 N4
      obtain ⟨a, ta, rfl⟩ : ∃ a ta, v2 = Value.int a ta := by
        have hlt : j < kd.length := by rw [← IK.length]; exact (List.getElem?_eq_some_iff.mp hvj).1
        obtain ⟨ta, e⟩ := IK.get j kd[j] (List.getElem?_eq_getElem hlt)
        rw [hvj] at e
        exact ⟨_, _, Option.some.inj e⟩
      have hn4 := F4.ns
      have X4 := X.keeps F4.keep
      have T4 := T.keeps F4.keep
      have gx4 := N4.get (.head _)
      have g14 := N4.get (show (L + 1, _) ∈ _ from by k_mem)
      have R4 : RowAt s₄.heap r ns := Rr _ _ _ N4 ⟨by k_mem, by k_mem, by k_mem, trivial⟩
      k_steps
      refine gives_many X4 T4 (by walk_at "m_hand") (by k_room) (by walk_at "m_units") R4 hzr _ _ ?_
      intro uv hv2 tkv kv
      exact ⟨⟨_, _, uv, rfl, rfl⟩, _, _, rfl, kv⟩
    · intro D h5 tk5 ts vs' e hD F5 N5 hlen hvs hP hkD
      have ev := items_same rfl hlen hvs
      subst ev
      rw [filter_tt] at hP
      have It := ints_mny IK hP
      k_steps
      refine ⟨sumKeep (by walk_at "m_hand") ⟨_, N5.get (.head _), rfl, _, rfl⟩ It fun h6 tk6 t6 k6 => ?_⟩
      exact ⟨⟨_, rfl⟩, _, _, rfl, fun b o q => k6 b o (hkD b o q)⟩
  · intro Z h' tk' ts e hZ F7 N7 hlen hts
    replace F7 : Fr h₀ L h' _ := F7
    replace N7 : News h₀ L h' _ := N7
    have oZ := off_cells8 Nw hZ (by k_mem) (by k_mem) (by k_mem) (by k_mem) (by k_mem) (by k_mem) (by k_mem) (by k_mem)
    obtain ⟨y1, y2, y3, rfl⟩ : ∃ y1 y2 y3, ts = [y1, y2, y3] := by
      rcases ts with _ | ⟨y1, _ | ⟨y2, _ | ⟨y3, _ | ⟨y4, ts⟩⟩⟩⟩ <;> simp at hlen
      exact ⟨y1, y2, y3, rfl⟩
    obtain ⟨x1, e1⟩ := hts 0 y1 rfl
    obtain ⟨x2, e2⟩ := hts 1 y2 rfl
    obtain ⟨x3, e3⟩ := hts 2 y3 rfl
    simp only [if_true, if_neg (show ¬ (1 : Nat) = 0 by decide), if_neg (show ¬ (2 : Nat) = 0 by decide), if_neg (show ¬ (2 : Nat) = 1 by decide)] at e1 e2 e3
    subst e1 e2 e3
    clear Fy Nw
    k_steps
    (with_reducible rename Fr _ _ _ _ => Fx)
    (with_reducible rename News _ _ _ _ => Nx)
    refine ⟨rfl, fun ht => ?_⟩
    exact @next _ _ _ Z e x1 x2 x3 _ (fr_as2 (x := ("count" : Str)) (y := ("united" : Str)) Fx rfl rfl) Nx oZ (by assumption) ht

end

open PySem PySem.W PySem.Calls PyProof.Rows PySem.SeqAt
set_option maxHeartbeats 400000
theorem ints_at {vs : List Value} {ns : List Int} (h : IntsAre vs ns) {j : Nat} (hj : j < vs.length) : ∃ t, vs[j] = Value.int (ns.getD j 0) t := by
  have hlt : j < ns.length := by rw [← h.length]; exact hj
  obtain ⟨t, e⟩ := h.get j ns[j] (List.getElem?_eq_getElem hlt)
  refine ⟨t, ?_⟩
  rw [List.getElem?_eq_getElem hj] at e
  rw [List.getD_eq_getElem?_getD, List.getElem?_eq_getElem hlt]
  exact Option.some.inj e
theorem rows_ne (ns ms : List Int) : (!((List.range (min ns.length ms.length)).all (fun j => ns.getD j 0 == ms.getD j 0) && ns.length == ms.length)) = decide (ns ≠ ms) := by
  by_cases e : ns = ms
  · subst e; simp
  · rw [decide_eq_true e, Bool.not_eq_true', Bool.and_eq_false_iff]
    by_cases hl : ns.length = ms.length
    · left
      rw [Bool.eq_false_iff]
      intro ha
      refine e (List.ext_getElem hl fun j h1 h2 => ?_)
      rw [List.all_eq_true] at ha
      have := ha j (List.mem_range.mpr (by omega))
      rw [List.getD_eq_getElem?_getD, List.getD_eq_getElem?_getD, List.getElem?_eq_getElem h1, List.getElem?_eq_getElem h2] at this
      simpa using this
    · right
      simpa using hl
section
variable {prog : Program} {w : World} {A : Around} {E : Value → Shared → Prop} {s : Shared}
/-- two rows compared -/
theorem q_ne {r r' : Addr} {ns ms : List Int} {Q : Value → Shared → Prop} (R : RowAt s.heap r ns) (R' : RowAt s.heap r' ms) (hu : A.units < cLine) (h : Q (.bool (decide (ns ≠ ms))) s) : wpAny (model prog w) A (compareOp .NotEq (.ref r) (.ref r')) Q E s := by
  obtain ⟨vs, ht, hi⟩ := R
  obtain ⟨ws, ht', hi'⟩ := R'
  refine cmp_ofNotEq (RcNeAt.tuples (e := fun j => ns.getD j 0 == ms.getD j 0) ht ht' hu (fun j h1 h2 => ?_) prog w E Q ?_)
  · obtain ⟨t, e1⟩ := ints_at hi (j := j) (by simpa using h1)
    obtain ⟨u, e2⟩ := ints_at hi' (j := j) (by simpa using h2)
    rw [show vs.toArray[j] = vs[j]'(by simpa using h1) from by simp, show ws.toArray[j] = ws[j]'(by simpa using h2) from by simp, e1, e2]
    exact EqAt.int_int _ _ _ _
  · have e := rows_ne ns ms
    rw [← hi.length, ← hi'.length] at e
    rw [List.size_toArray, List.size_toArray, e]
    exact h
/-- a list compared with the empty list -/
theorem q_nil {l l' : Addr} {vs : List Value} {Q : Value → Shared → Prop} (hl : s.heap.IsList l vs.toArray) (hl' : s.heap.IsList l' ([] : List Value).toArray) (hu : A.units < cLine) (h : Q (.bool (decide (vs = []))) s) : wpAny (model prog w) A (compareOp .Eq (.ref l) (.ref l')) Q E s := by
  refine cmp_ofEq ?_
  cases vs with
  | nil => exact RcAt.lists (e := fun _ => true) hl hl' rfl hu (fun j h1 _ => absurd h1 (Nat.not_lt_zero _)) prog w E Q h
  | cons v vs => exact RcAt.lists_lengths hl hl' (by simp) hu prog w E Q (by simpa using h)
end
local macro_rules | `(tactic| walk_at "compareOp Eq ref") => `(tactic| (k_here; (with_reducible show wpAny _ _ (compareOp CmpOp.Eq (Value.ref _) (Value.ref _)) _ _ _); refine Hold.out ?_))
local macro_rules | `(tactic| walk_at "compareOp NotEq ref") => `(tactic| (k_here; (with_reducible show wpAny _ _ (compareOp CmpOp.NotEq (Value.ref _) (Value.ref _)) _ _ _); refine Hold.out ?_))
local macro_rules | `(tactic| walk_at "compareOp NotEq ref") => `(tactic| (k_here; (with_reducible show wpAny _ _ (compareOp CmpOp.NotEq (Value.ref _) (Value.ref _)) _ _ _); k_dflt (refine' q_ne ?R ?R2 ?u ?_; (case R => assumption); (case R2 => assumption); (case u => walk_at "m_units"))))

section
open PySem PySem.W PySem.Calls PyProof.Rows
set_option maxHeartbeats 4000000
theorem kjac_init (w : World) : findIn (KF w) (.ref 270) "__init__" = some (some (.ref 253)) := by kernel_rfl
theorem kjac_fn (w : World) : typeIn (KF w) (.ref 253) = some (.type "function") := by kernel_rfl
theorem kjac_makes (w : World) : makesIn (KF w) 270 = true := by kernel_rfl
theorem make_jac {prog : Program} {w : World} {A : Around} {p : Program} {loose : List Str} {mg mb : Str → Option Value} {s : Shared} {Q E : Value → Shared → Prop} {b : Bool}
    (X : (hd.heap_39 w.params).In s.heap) (T : TopRead p loose mg mb s.heap) (hA : A.handled = none) (hd : A.depth + 10 < recursionLimit) (hu : A.units + 40 < cLine)
    (hQ : ∀ x dx h' tk n tq t1 t2 t3, (∀ b o, s.heap.get? b = some o → h'.get? b = some o) → s.heap.get? x = none → s.heap.get? dx = none → Meas h' x dx 270 (attr3 w b tq t1 t2 t3) n → Q (.ref x) { s with heap := h', toks := tk }) :
    wpAny (model prog w) A (call (.ref 270) [] [("as_set", .bool b)]) Q E s := by
  refine wpAny_call ?_
  obtain ⟨hh, g, d, t, os⟩ := s
  dsimp only at X T
  refine make_core (makes_of X (kjac_makes w)) (looks_findIn X (kjac_init w)) (fun self => bind_fn X self (kjac_fn w)) (.inl rfl) ?_
  generalize hx : hh.objs.size + 1 = x
  generalize hdx : hh.objs.size = dx
  have hk : ∀ b o, hh.get? b = some o → ((hh.push emptyDict).push (instObj 270 dx)).get? b = some o := fun b o e => Heap.get?_push_of_some _ (Heap.get?_push_of_some _ e)
  have hz : hh.objs.size ≤ ((hh.push emptyDict).push (instObj 270 dx)).objs.size := by simp only [Heap.size_push]; omega
  have hn : ∀ q ∈ [(x, instObj 270 dx), (dx, dictOf [] 0)], ((hh.push emptyDict).push (instObj 270 dx)).get? q.1 = some q.2 ∧ hh.get? q.1 = none := by
    subst hx hdx
    intro q hq
    simp only [List.mem_cons, List.not_mem_nil, or_false] at hq
    rcases hq with rfl | rfl
    · exact ⟨by heap_get, Heap.get?_none_of_le (by omega)⟩
    · exact ⟨by heap_get, Heap.get?_none_of_le (Nat.le_refl _)⟩
  generalize hh1 : (hh.push emptyDict).push (instObj 270 dx) = h1 at hk hz hn
  have X1 := X.keeps hk
  have T1 := T.keeps hk
  clear hh1
  have hne : dx < x := by omega
  walk_at "m_enter"
  intro L' h₁ F N hk₁
  k_steps
  (with_reducible rename Fr _ _ _ _ => Fx)
  (with_reducible rename News _ _ _ _ => Nx)
  exact ⟨rfl, hQ x dx _ _ _ _ _ _ _ Fx.keep (Nx _ (.head _)).2.2 (Nx _ (.tail _ (.head _))).2.2 ⟨Nx.get (.head _), Nx.get (.tail _ (.head _))⟩⟩
theorem ksor_init (w : World) : findIn (KF w) (.ref 304) "__init__" = some (some (.ref 287)) := by kernel_rfl
theorem ksor_fn (w : World) : typeIn (KF w) (.ref 287) = some (.type "function") := by kernel_rfl
theorem ksor_makes (w : World) : makesIn (KF w) 304 = true := by kernel_rfl
theorem make_sor {prog : Program} {w : World} {A : Around} {p : Program} {loose : List Str} {mg mb : Str → Option Value} {s : Shared} {Q E : Value → Shared → Prop} {b : Bool}
    (X : (hd.heap_39 w.params).In s.heap) (T : TopRead p loose mg mb s.heap) (hA : A.handled = none) (hd : A.depth + 10 < recursionLimit) (hu : A.units + 40 < cLine)
    (hQ : ∀ x dx h' tk n tq t1 t2 t3, (∀ b o, s.heap.get? b = some o → h'.get? b = some o) → s.heap.get? x = none → s.heap.get? dx = none → Meas h' x dx 304 (attr3 w b tq t1 t2 t3) n → Q (.ref x) { s with heap := h', toks := tk }) :
    wpAny (model prog w) A (call (.ref 304) [] [("as_set", .bool b)]) Q E s := by
  refine wpAny_call ?_
  obtain ⟨hh, g, d, t, os⟩ := s
  dsimp only at X T
  refine make_core (makes_of X (ksor_makes w)) (looks_findIn X (ksor_init w)) (fun self => bind_fn X self (ksor_fn w)) (.inl rfl) ?_
  generalize hx : hh.objs.size + 1 = x
  generalize hdx : hh.objs.size = dx
  have hk : ∀ b o, hh.get? b = some o → ((hh.push emptyDict).push (instObj 304 dx)).get? b = some o := fun b o e => Heap.get?_push_of_some _ (Heap.get?_push_of_some _ e)
  have hz : hh.objs.size ≤ ((hh.push emptyDict).push (instObj 304 dx)).objs.size := by simp only [Heap.size_push]; omega
  have hn : ∀ q ∈ [(x, instObj 304 dx), (dx, dictOf [] 0)], ((hh.push emptyDict).push (instObj 304 dx)).get? q.1 = some q.2 ∧ hh.get? q.1 = none := by
    subst hx hdx
    intro q hq
    simp only [List.mem_cons, List.not_mem_nil, or_false] at hq
    rcases hq with rfl | rfl
    · exact ⟨by heap_get, Heap.get?_none_of_le (by omega)⟩
    · exact ⟨by heap_get, Heap.get?_none_of_le (Nat.le_refl _)⟩
  generalize hh1 : (hh.push emptyDict).push (instObj 304 dx) = h1 at hk hz hn
  have X1 := X.keeps hk
  have T1 := T.keeps hk
  clear hh1
  have hne : dx < x := by omega
  walk_at "m_enter"
  intro L' h₁ F N hk₁
  k_steps
  (with_reducible rename Fr _ _ _ _ => Fx)
  (with_reducible rename News _ _ _ _ => Nx)
  exact ⟨rfl, hQ x dx _ _ _ _ _ _ _ Fx.keep (Nx _ (.head _)).2.2 (Nx _ (.tail _ (.head _))).2.2 ⟨Nx.get (.head _), Nx.get (.tail _ (.head _))⟩⟩
theorem kov_init (w : World) : findIn (KF w) (.ref 368) "__init__" = some (some (.ref 353)) := by kernel_rfl
theorem kov_fn (w : World) : typeIn (KF w) (.ref 353) = some (.type "function") := by kernel_rfl
theorem kov_makes (w : World) : makesIn (KF w) 368 = true := by kernel_rfl
theorem make_ov {prog : Program} {w : World} {A : Around} {p : Program} {loose : List Str} {mg mb : Str → Option Value} {s : Shared} {Q E : Value → Shared → Prop} {b : Bool}
    (X : (hd.heap_39 w.params).In s.heap) (T : TopRead p loose mg mb s.heap) (hA : A.handled = none) (hd : A.depth + 10 < recursionLimit) (hu : A.units + 40 < cLine)
    (hQ : ∀ x dx h' tk n tq t1 t2 t3, (∀ b o, s.heap.get? b = some o → h'.get? b = some o) → s.heap.get? x = none → s.heap.get? dx = none → Meas h' x dx 368 (attr3 w b tq t1 t2 t3) n → Q (.ref x) { s with heap := h', toks := tk }) :
    wpAny (model prog w) A (call (.ref 368) [] [("as_set", .bool b)]) Q E s := by
  refine wpAny_call ?_
  obtain ⟨hh, g, d, t, os⟩ := s
  dsimp only at X T
  refine make_core (makes_of X (kov_makes w)) (looks_findIn X (kov_init w)) (fun self => bind_fn X self (kov_fn w)) (.inl rfl) ?_
  generalize hx : hh.objs.size + 1 = x
  generalize hdx : hh.objs.size = dx
  have hk : ∀ b o, hh.get? b = some o → ((hh.push emptyDict).push (instObj 368 dx)).get? b = some o := fun b o e => Heap.get?_push_of_some _ (Heap.get?_push_of_some _ e)
  have hz : hh.objs.size ≤ ((hh.push emptyDict).push (instObj 368 dx)).objs.size := by simp only [Heap.size_push]; omega
  have hn : ∀ q ∈ [(x, instObj 368 dx), (dx, dictOf [] 0)], ((hh.push emptyDict).push (instObj 368 dx)).get? q.1 = some q.2 ∧ hh.get? q.1 = none := by
    subst hx hdx
    intro q hq
    simp only [List.mem_cons, List.not_mem_nil, or_false] at hq
    rcases hq with rfl | rfl
    · exact ⟨by heap_get, Heap.get?_none_of_le (by omega)⟩
    · exact ⟨by heap_get, Heap.get?_none_of_le (Nat.le_refl _)⟩
  generalize hh1 : (hh.push emptyDict).push (instObj 368 dx) = h1 at hk hz hn
  have X1 := X.keeps hk
  have T1 := T.keeps hk
  clear hh1
  have hne : dx < x := by omega
  walk_at "m_enter"
  intro L' h₁ F N hk₁
  k_steps
  (with_reducible rename Fr _ _ _ _ => Fx)
  (with_reducible rename News _ _ _ _ => Nx)
  exact ⟨rfl, hQ x dx _ _ _ _ _ _ _ Fx.keep (Nx _ (.head _)).2.2 (Nx _ (.tail _ (.head _))).2.2 ⟨Nx.get (.head _), Nx.get (.tail _ (.head _))⟩⟩
theorem ktv_init (w : World) : findIn (KF w) (.ref 336) "__init__" = some (some (.ref 321)) := by kernel_rfl
theorem ktv_fn (w : World) : typeIn (KF w) (.ref 321) = some (.type "function") := by kernel_rfl
theorem ktv_makes (w : World) : makesIn (KF w) 336 = true := by kernel_rfl
theorem make_tv {prog : Program} {w : World} {A : Around} {p : Program} {loose : List Str} {mg mb : Str → Option Value} {s : Shared} {Q E : Value → Shared → Prop} {b : Bool} {H : Addr}
    (X : (hd.heap_39 w.params).In s.heap) (T : TopRead p loose mg mb s.heap) (hA : A.handled = none) (hd : A.depth + 10 < recursionLimit) (hu : A.units + 40 < cLine)
    (hQ : ∀ x dx h' tk n tq t1 t2 t3 t4 t5, (∀ b o, s.heap.get? b = some o → h'.get? b = some o) → s.heap.get? x = none → s.heap.get? dx = none → Meas h' x dx 336 (attr5 w b H tq t1 t2 t3 t4 t5) n → Q (.ref x) { s with heap := h', toks := tk }) :
    wpAny (model prog w) A (call (.ref 336) [] [("ks", .ref H), ("as_set", .bool b)]) Q E s := by
  refine wpAny_call ?_
  obtain ⟨hh, g, d, t, os⟩ := s
  dsimp only at X T
  refine make_core (makes_of X (ktv_makes w)) (looks_findIn X (ktv_init w)) (fun self => bind_fn X self (ktv_fn w)) (.inl rfl) ?_
  generalize hx : hh.objs.size + 1 = x
  generalize hdx : hh.objs.size = dx
  have hk : ∀ b o, hh.get? b = some o → ((hh.push emptyDict).push (instObj 336 dx)).get? b = some o := fun b o e => Heap.get?_push_of_some _ (Heap.get?_push_of_some _ e)
  have hz : hh.objs.size ≤ ((hh.push emptyDict).push (instObj 336 dx)).objs.size := by simp only [Heap.size_push]; omega
  have hn : ∀ q ∈ [(x, instObj 336 dx), (dx, dictOf [] 0)], ((hh.push emptyDict).push (instObj 336 dx)).get? q.1 = some q.2 ∧ hh.get? q.1 = none := by
    subst hx hdx
    intro q hq
    simp only [List.mem_cons, List.not_mem_nil, or_false] at hq
    rcases hq with rfl | rfl
    · exact ⟨by heap_get, Heap.get?_none_of_le (by omega)⟩
    · exact ⟨by heap_get, Heap.get?_none_of_le (Nat.le_refl _)⟩
  generalize hh1 : (hh.push emptyDict).push (instObj 336 dx) = h1 at hk hz hn
  have X1 := X.keeps hk
  have T1 := T.keeps hk
  clear hh1
  have hne : dx < x := by omega
  walk_at "m_enter"
  intro L' h₁ F N hk₁
  k_steps
  (with_reducible rename Fr _ _ _ _ => Fx)
  (with_reducible rename News _ _ _ _ => Nx)
  exact ⟨rfl, hQ x dx _ _ _ _ _ _ _ _ _ Fx.keep (Nx _ (.head _)).2.2 (Nx _ (.tail _ (.head _))).2.2 ⟨Nx.get (.head _), Nx.get (.tail _ (.head _))⟩⟩

end

section
open PySem PySem.W PySem.Calls PyProof.Rows PySem.SeqAt
set_option maxHeartbeats 400000
theorem NoneBooked.soft {h h' : Heap} (b : NoneBooked h) (s : Soft h h') : NoneBooked h' := by
  obtain ⟨mc, ⟨o, es, ep, a, r⟩, k⟩ := b
  exact ⟨mc, ⟨o, es, ep, s.keep _ _ (by decide) (by decide) a, r⟩, k⟩
theorem eqat_flt {A : Around} {s : Shared} (x : UInt64) (t u : Tok) (hn : Float64.isNaN x = false) (ht : t ≠ 0) (hu : u ≠ 0) (hb : NoneBooked s.heap) : EqAt A s (.float x t) (.float x u) true := fun prog w E Q h => by
  unfold eqBool
  refine wpAny_holding ?_
  refine wpAny_ite_split (fun _ => wpAny_bind (wpAny_rule (wpAny_pure h))) (fun _ => ?_)
  have rest : wpAny (model prog w) A (do truthOfDropped (← richCompare .Eq (.float x t) (.float x u))) Q E s := by
    refine wpAny_bind (AutoFloatOps.eq_0 (wpAny_truthy_bool ?_))
    rw [PySem.Flt.cmp_self, hn]
    exact h
  refine wpAny_bind ?_
  show wpAny _ A (isSame.created (x == x && !Float64.isNaN x) t u) _ E s
  unfold isSame.created
  have e1 : (t == 0 || u == 0) = false := by simp [ht, hu]
  rw [e1]
  refine wpAny_ite ?_
  rw [if_neg Bool.false_ne_true]
  refine wpAny_ite ?_
  split
  · exact wpAny_pure (by rw [if_pos rfl]; exact wpAny_pure h)
  refine wpAny_ite ?_
  split
  · exact wpAny_pure (by rw [if_neg Bool.false_ne_true]; exact rest)
  refine wpAny_bind (wpAny_sharingNotTold_none hb ?_)
  first | rw [if_neg Bool.false_ne_true] | simp only [Bool.false_eq_true, if_false]
  refine wpAny_bind (wpAny_sharingNotTold_none hb ?_)
  first | rw [if_neg Bool.false_ne_true] | simp only [Bool.false_eq_true, if_false]
  refine wpAny_bind (wpAny_rule (wpAny_bind (wpAny_askSetting (wpAny_pure ?_))))
  split
  · exact wpAny_pure h
  · exact rest
/-- a told value whose token is none of the private ones -/
def Told (f : Tok → Value) (v : Value) : Prop := ∃ u, v = f u ∧ ∀ x, f u = .float x u → u ≠ 0
theorem Same.eqat {f : Tok → Value} {y v : Value} (S : Same f y) (V : Told f v) {A : Around} {s : Shared} (hb : NoneBooked s.heap) : EqAt A s v y true := by
  obtain ⟨u, rfl, hu⟩ := V
  rcases S with ⟨k, h, t, rfl⟩ | ⟨x, h, hn, t, ht, rfl⟩
  · rw [h]
    have := EqAt.int_int (A := A) (s := s) k u k t
    rwa [beq_self_eq_true] at this
  · have := hu x (h u)
    rw [h]; exact eqat_flt x u t hn this ht hb
theorem told_late {f : Tok → Value} {P : Value → Nat → Prop} (hP : ∀ v k, P v k → ∃ u, v = f u ∧ RecT v k) {v : Value} {n : Nat} (H : Late (Late P) v n) (hn : 11 ≤ n) : Told f v := by
  obtain ⟨a, ha, b, hb, H⟩ := H
  obtain ⟨u, rfl, hr⟩ := hP _ _ H
  refine ⟨u, rfl, fun x e => ?_⟩
  rw [e] at hr
  have : b ≤ u + 4 := hr
  exact tok_ne (show (1 : Nat) ≤ u by omega)
/-- what was told against the dues: no difference -/
theorem q_told {prog : Program} {w : World} {A : Around} {E : Value → Shared → Prop} {s : Shared} {l l' : Addr} {vs ws : List Value} {Q : Value → Shared → Prop} (hl : s.heap.IsList l vs.toArray) (hl' : s.heap.IsList l' ws.toArray) (hu : A.units < cLine)
    (hlen : vs.length = ws.length) (he : ∀ (j : Nat) v y, vs[j]? = some v → ws[j]? = some y → EqAt A.in1 s v y true) (h : Q (.bool false) s) : wpAny (model prog w) A (compareOp .NotEq (.ref l) (.ref l')) Q E s := by
  refine cmp_ofNotEq (RcNeAt.lists (e := fun _ => true) hl hl' (by simpa using hlen) hu (fun j h1 h2 => he j _ _ (by simp) (by simp)) prog w E Q ?_)
  have : (List.range vs.toArray.size).all (fun _ => true) = true := by simp
  rw [this]
  exact h
theorem row_led {h₀ h : Heap} {L : Addr} {news : List (Addr × Obj)} (N : News h₀ L h news) {r : Addr} {vs : List Value} {f : Nat} {ns : List Int} (I : IntsAre vs ns) (hm : (r, ({ cls := .type "tuple", data := .seq vs.toArray f } : Obj)) ∈ news) : RowAt h r ns :=
  ⟨vs, ⟨_, N.get hm, rfl, f, rfl⟩, I⟩
theorem meas_led {h₀ h : Heap} {L : Addr} {news : List (Addr × Obj)} (N : News h₀ L h news) {x dx C : Addr} {es : List DictEntry} {n : Nat} (hm : (x, instObj C dx) ∈ news) (hm' : (dx, dictOf es n) ∈ news) : Meas h x dx C es n :=
  ⟨N.get hm, N.get hm'⟩
theorem list_led {h₀ h : Heap} {L : Addr} {news : List (Addr × Obj)} (N : News h₀ L h news) {l : Addr} {vs : Array Value} {e : Nat} (hm : (l, PySem.W.listOf vs e) ∈ news) : h.IsList l vs :=
  ⟨_, N.get hm, rfl, e, rfl⟩

end

section
open PySem PySem.W PySem.Calls PyProof.Rows
set_option maxHeartbeats 4000000
local macro_rules | `(tactic| walk_at "compareOp Eq ref ref") => `(tactic| (k_here; (with_reducible show wpAny _ _ (compareOp CmpOp.Eq (Value.ref _) (Value.ref _)) _ _ _); refine Hold.out ?_))
local macro_rules | `(tactic| walk_at "compareOp NotEq ref ref") => `(tactic| (k_here; (with_reducible show wpAny _ _ (compareOp CmpOp.NotEq (Value.ref _) (Value.ref _)) _ _ _); refine Hold.out ?_))
local macro_rules | `(tactic| walk_at "compareOp NotEq ref ref") => `(tactic| (k_here; (with_reducible show wpAny _ _ (compareOp CmpOp.NotEq (Value.ref _) (Value.ref _)) _ _ _); k_dflt (refine' q_ne ?R ?R2 ?u ?_; (case R => assumption); (case R2 => assumption); (case u => walk_at "m_units"))))
local macro_rules | `(tactic| walk_at "callWith ref") => `(tactic| (k_here; (with_reducible show wpAny _ _ (callWith _ (Value.ref _) _ _ (backToKw _ _)) _ _ _); k_dflt (first | refine' callWith_KW ?k1 ?k2 ?k3 ?_; (case k1 => k_asm); (case k2 => k_is); (case k3 => exact rfl); k_whole | refine' callWith_KW0 ?k1 ?k2 ?k3 ?_; (case k1 => k_asm); (case k2 => k_is); (case k3 => exact rfl); k_whole)))
local macro_rules | `(tactic| walk_at "call ref cons nil") => `(tactic| (k_here; (with_reducible show wpAny _ _ (call (Value.ref _) _ _) _ _ _); refine Halt.out ?_))
local macro_rules | `(tactic| walk_at "call builtin:all cons nil") => `(tactic| (k_here; (with_reducible show wpAny _ _ (call (Value.builtin "all") [Value.ref _] _) _ _ _); refine Halt.out ?_))
local macro_rules | `(tactic| walk_at "eval GeneratorExp Call cons") => `(tactic| (k_here; (with_reducible show wpAny _ _ (eval (Expr.GeneratorExp _ _ _ _) _) _ _ _); refine Halt.out ?_))
local macro_rules | `(tactic| walk_at "binaryOp Div int int") => `(tactic| (k_here; (with_reducible show wpAny _ _ (binaryOp Operator.Div _ _) _ _ _); refine Halt.out ?_))
local macro_rules | `(tactic| walk_at "binaryOp Div float int") => `(tactic| (k_here; (with_reducible show wpAny _ _ (binaryOp Operator.Div _ _) _ _ _); refine Halt.out ?_))
local macro_rules | `(tactic| walk_at "binaryOp Mult float int") => `(tactic| (k_here; (with_reducible show wpAny _ _ (binaryOp Operator.Mult (Value.float _ _) _) _ _ _); refine Halt.out ?_))
local macro_rules | `(tactic| walk_at "call builtin:min cons nil") => `(tactic| (k_here; (with_reducible show wpAny _ _ (call (Value.builtin "min") [Value.ref _] _) _ _ _); refine Halt.out ?_))
local macro_rules | `(tactic| walk_at "call ref nil") => `(tactic| (k_here; (with_reducible show wpAny _ _ (call (Value.ref _) _ _) _ _ _); refine Halt.out ?_))
local macro_rules | `(tactic| walk_at "call builtin:max cons nil") => `(tactic| (k_here; (with_reducible show wpAny _ _ (call (Value.builtin "max") [Value.ref _] _) _ _ _); refine Halt.out ?_))
local macro_rules | `(tactic| walk_at "pyIter ref") => `(tactic| (k_here; (with_reducible show wpAny _ _ (pyIter (Value.ref _)) _ _ _); refine Halt.out ?_))
local macro_rules | `(tactic| walk_at "execs cons") => `(tactic| (k_here; (fail_if_success (fail_if_success k_gentoks)); refine gentoks12 (by repeat (first | assumption | refine Nat.le_succ_of_le ?_)) ?_; intro tk htk))
local macro_rules | `(tactic| walk_at "execs nil") => `(tactic| (k_here; (fail_if_success (fail_if_success k_gentoks)); refine gentoks12 (by repeat (first | assumption | refine Nat.le_succ_of_le ?_)) ?_; intro tk htk))
local macro_rules | `(tactic| walk_at "isTrue Compare") => `(tactic| (k_here; (with_reducible show wpAny _ _ (isTrue _ _ _) _ _ _); refine Hold.out ?_))
local macro_rules | `(tactic| walk_at "eval Call") => `(tactic| (k_here; (with_reducible show wpAny _ _ (eval (Expr.Call (Expr.Name _ _) _ _ _) _) _ _ _); refine Hold.out ?_))
theorem seg_dues2 {prog : Program} {w : World} {A : Around} {p : Program} {loose : List Str} {mg mb : Str → Option Value} {bm : Addr} {ob : Obj} {s : Shared} {h₀ : Heap} {L : Addr} {Q : Flow → Shared → Prop} {u : Str → Option Value} {tc : Tok} {R H r1 r2 : Addr} {vs1 vs2 : List Value} {n1 n2 : List Int} {eR eH f1 f2 : Nat} {b : Bool} {z1 z2 : Int} {w1 w2 : Tok} {o1 o2 o3 o4 o5 o6 o7 o8 : Obj} {K : Addr} {vk : List Value} {eK : Nat} {kd : List Int} {v3 v4 : Option Value} {zU zS s1 s2 : Int} {tU tS : Tok} {Z : Addr} {eZ : Nat} {x1 x2 : Tok}
    (X : (hd.heap_39 w.params).In h₀) (T : TopRead p loose mg mb h₀) (hA : A.handled = none) (hd : A.depth + 90 < recursionLimit) (hu : A.units + 500 < cLine)
    (F : Fr h₀ L s.heap (fun y => if y = "united" then some (.int zU tU) else if y = "count" then some (.int 2 tc) else u y))
    (N : News h₀ L s.heap [(Z, PySem.W.listOf (List.toArray [.int s1 x1, .int s2 x2]) eZ), (K, PySem.W.listOf vk.toArray eK), (R, PySem.W.listOf (List.toArray [.ref r1, .ref r2]) eR), (r1, ({ cls := .type "tuple", data := .seq vs1.toArray f1 } : Obj)), (r2, ({ cls := .type "tuple", data := .seq vs2.toArray f2 } : Obj)), (H, PySem.W.listOf (List.toArray [.int z1 w1, .int z2 w2]) eH), (L + 1, o1), (L + 1 + 1, o2), (L + 1 + 1 + 1, o3), (L + 1 + 1 + 1 + 1, o4), (L + 1 + 1 + 1 + 1 + 1, o5), (L + 1 + 1 + 1 + 1 + 1 + 1, o6), (L + 1 + 1 + 1 + 1 + 1 + 1 + 1, o7), (L + 1 + 1 + 1 + 1 + 1 + 1 + 1 + 1, o8)])
    (oR : (@LT.lt Nat _ R (L + 1) ∨ @LT.lt Nat _ (L + 8) R)) (or1 : (@LT.lt Nat _ r1 (L + 1) ∨ @LT.lt Nat _ (L + 8) r1)) (or2 : (@LT.lt Nat _ r2 (L + 1) ∨ @LT.lt Nat _ (L + 8) r2)) (oH : (@LT.lt Nat _ H (L + 1) ∨ @LT.lt Nat _ (L + 8) H))
    (oK : (@LT.lt Nat _ K (L + 1) ∨ @LT.lt Nat _ (L + 8) K)) (IK : IntsAre vk kd) (hkd : kd.length ≤ 300)
    (oZ : (@LT.lt Nat _ Z (L + 1) ∨ @LT.lt Nat _ (L + 8) Z))
    (d1 : o1.data = .cell (some (.bool b))) (d2 : o2.data = .cell (some (.ref H))) (d3 : o3.data = .cell v3) (d4 : o4.data = .cell v4) (d5 : o5.data = .cell (some (.ref R))) (d6 : o6.data = .cell (some (.ref K))) (d7 : o7.data = .cell (some (.int zS tS))) (d8 : o8.data = .cell (some (.ref Z)))
    (I1 : IntsAre vs1 n1) (hz1 : n1.length ≤ 100) (I2 : IntsAre vs2 n2) (hz2 : n2.length ≤ 100)
    (hS : zS = cc b (cand (cnt n1) (cnt n2))) (hU : zU = cc b (cor (cnt n1) (cnt n2))) (hs1 : s1 = cc b (cnt n1)) (hs2 : s2 = cc b (cnt n2)) (hlen : n1.length + n2.length ≤ 16) (hw1 : 1 ≤ z1 ∧ z1 ≤ 5) (hw2 : 1 ≤ z2 ∧ z2 ≤ 5)
    (ht : 12 ≤ s.toks)
    (next : ∀ (h' : Heap) (tk : Nat) (u' : Str → Option Value) (Du : Addr) (eD : Nat) (y1 y2 y3 y4 : Value), Fr h₀ L h' (fun y => if y = "dues" then some (.ref Du) else if y = "count" then some (.int 2 tc) else u' y) → News h₀ L h' [(Du, PySem.W.listOf (List.toArray [y1, y2, y3, y4]) eD), (R, PySem.W.listOf (List.toArray [.ref r1, .ref r2]) eR), (r1, ({ cls := .type "tuple", data := .seq vs1.toArray f1 } : Obj)), (r2, ({ cls := .type "tuple", data := .seq vs2.toArray f2 } : Obj)), (H, PySem.W.listOf (List.toArray [.int z1 w1, .int z2 w2]) eH), (L + 1, o1), (L + 1 + 1, o2), (L + 1 + 1 + 1, o3), (L + 1 + 1 + 1 + 1, o4), (L + 1 + 1 + 1 + 1 + 1, o5), (L + 1 + 1 + 1 + 1 + 1 + 1, o6), (L + 1 + 1 + 1 + 1 + 1 + 1 + 1, o7), (L + 1 + 1 + 1 + 1 + 1 + 1 + 1 + 1, o8)] → Same (jv2 b n1 n2) y1 → Same (ov2 b n1 n2) y2 → Same (tv2 b n1 n2 z1 z2) y3 → Same (sv2 b n1 n2) y4 → 12 ≤ tk →
      wpAny (model prog w) A (execs (lawIs w 13) (lawEnv w L)) Q noE { s with heap := h', toks := tk }) :
    Hold (wpAny (model prog w) A (execs (lawIs w 12) (lawEnv w L)) Q noE s) := by
  refine ⟨?_⟩
  conv =>
    arg 3
    arg 1
    whnf
  conv =>
    arg 3
    arg 2
    whnf
  change wpAny _ _ (execs _ (envOfC (PySem.Str.ofString "law") _ L 387 (.ref 386))) _ _ _
  have p1 := size_nonneg (b := b) (n1 := n1)
  have q1 := size_le (b := b) (n1 := n1)
  have p2 := size_nonneg (b := b) (n1 := n2)
  have q2 := size_le (b := b) (n1 := n2)
  have a0 := and2_nonneg (b := b) (n1 := n1) (n2 := n2)
  have a1 := and2_le1 (b := b) (n1 := n1) (n2 := n2)
  have a2 := and2_le2 (b := b) (n1 := n1) (n2 := n2)
  have a4 := or2_ge (b := b) (n1 := n1) (n2 := n2)
  subst hS hU hs1 hs2
  refine one_stmtT 12 ht ?_
  k_steps
  all_goals (try (with_reducible show Halt (wpAny _ _ _ _ _ _); refine Halt.mk ?_))
  refine ⟨wpAny_tk 12 (by repeat (first | assumption | refine Nat.le_succ_of_le ?_)) ?_⟩
  refine wpAny_isTrue_Compare1 ?_
  k_steps
  all_goals (try (with_reducible show Halt (wpAny _ _ _ _ _ _); refine Halt.mk ?_))
  obtain ⟨G, g1, g2⟩ := pickR2 (h := s.heap) (fun l => if n1 = l then 0 else 1) ⟨vs1, ⟨_, N.get (show (r1, _) ∈ _ from by k_mem), rfl, f1, rfl⟩, I1⟩ ⟨vs2, ⟨_, N.get (show (r2, _) ∈ _ from by k_mem), rfl, f2, rfl⟩, I2⟩
  rw [if_pos rfl] at g1
  refine ⟨anyComp (h₀ := h₀) (fun v => decide (G.g v ≠ 0)) (fun v y => y = v) rfl (by decide) rfl (by decide) rfl ?_⟩
  k_steps
  all_goals (try (with_reducible show Halt (wpAny _ _ _ _ _ _); refine Halt.mk ?_))
  refine ⟨⟨_, _, _, _, F, N, src_list (vs := [.ref r1, .ref r2]) (by walk_at "m_hand") ⟨_, N.get (show (R, _) ∈ _ from by k_mem), rfl, eR, rfl⟩, by simp, ?_, ?_, ?_⟩⟩
  · intro C i v s₃ m₃ E' hvi hm Fc Nc
    obtain ⟨r, ns, rfl, hg, Rr⟩ : ∃ (r : Addr) (ns : List Int), v = .ref r ∧ G.g (.ref r) = (if n1 = ns then 0 else 1) ∧ RowAt s₃.heap r ns := by
      rcases i with _ | _ | i
      · cases hvi; exact ⟨r1, n1, rfl, g1.trans (if_pos rfl).symm, ⟨vs1, ⟨_, Nc.get (show (r1, _) ∈ _ from by k_mem), rfl, f1, rfl⟩, I1⟩⟩
      · cases hvi; exact ⟨r2, n2, rfl, g2, ⟨vs2, ⟨_, Nc.get (show (r2, _) ∈ _ from by k_mem), rfl, f2, rfl⟩, I2⟩⟩
      · cases hvi
    have R1c : RowAt s₃.heap r1 n1 := ⟨vs1, ⟨_, Nc.get (show (r1, _) ∈ _ from by k_mem), rfl, f1, rfl⟩, I1⟩
    have hn := Fc.ns
    have g5 := Nc.get (show (L + 1 + 1 + 1 + 1 + 1, _) ∈ _ from by k_mem)
    show wpAny _ _ _ (fun ok s₄ => ok = decide (G.g (.ref r) ≠ 0) ∧ Keeps s₃ s₄) _ _
    rw [hg, show decide ((if n1 = ns then (0 : Int) else 1) ≠ 0) = decide (ns ≠ n1) by by_cases e : n1 = ns <;> simp [e, eq_comm]]
    k_steps
    all_goals (try (with_reducible show Halt (wpAny _ _ _ _ _ _); refine Halt.mk ?_))
    refine ⟨wpAny_isTrue_Compare1 ?_⟩
    k_steps
    all_goals (try (with_reducible show Halt (wpAny _ _ _ _ _ _); refine Halt.mk ?_))
    exact ⟨_, _, rfl, fun _ _ e => e⟩
  · intro C i v s₃ m₃ E' hvi hp hm Fc Nc
    have hn := Fc.ns
    k_steps
    all_goals (try (with_reducible show Halt (wpAny _ _ _ _ _ _); refine Halt.mk ?_))
    exact ⟨_, _, rfl, fun _ _ e => e⟩
  · intro D h5 tk5 ts vs' e hD F5 N5 hlen5 hvs hP hkD
    have ev := items_same rfl hlen5 hvs
    subst ev
    replace F5 : Fr h₀ L h5 _ := F5
    replace N5 : News h₀ L h5 _ := N5
    have hts : ts = [] ↔ n1 = n2 := by
      rw [← List.length_eq_zero_iff, paired_len hP, List.length_eq_zero_iff, List.filter_eq_nil_iff]
      simp only [List.mem_cons, List.not_mem_nil, or_false, forall_eq_or_imp, forall_eq, g1, g2]
      by_cases e2 : n1 = n2 <;> simp [e2]
    clear F N
    k_steps
    all_goals (try (with_reducible show Halt (wpAny _ _ _ _ _ _); refine Halt.mk ?_))
    (with_reducible rename News _ _ _ _ => Nx)
    refine ⟨q_nil ⟨_, Nx.get (show (D, _) ∈ _ from by k_mem), rfl, e, rfl⟩ ⟨_, Nx.get (.head _), rfl, 0, rfl⟩ (by walk_at "m_units") ?_⟩
    by_cases hq : n1 = n2
    · rw [decide_eq_true (hts.mpr hq)]
      k_steps
      all_goals (try (with_reducible show Halt (wpAny _ _ _ _ _ _); refine Halt.mk ?_))
      (with_reducible rename Fr _ _ _ _ => Fx)
      (with_reducible rename News _ _ _ _ => Nx2)
      refine ⟨rfl, fun ht => ?_⟩
      have N9 : News h₀ L _ [(_, PySem.W.listOf (List.toArray [.int 1 _, .int 1 _, .int 1 _, .int 1 _]) 0), (R, _), (r1, _), (r2, _), (H, _), (L + 1, _), (L + 1 + 1, _), (L + 1 + 1 + 1, _), (L + 1 + 1 + 1 + 1, _), (L + 1 + 1 + 1 + 1 + 1, _), (L + 1 + 1 + 1 + 1 + 1 + 1, _), (L + 1 + 1 + 1 + 1 + 1 + 1 + 1, _), (L + 1 + 1 + 1 + 1 + 1 + 1 + 1 + 1, _)] := news_pick Nx2 ⟨by k_mem, by k_mem, by k_mem, by k_mem, by k_mem, by k_mem, by k_mem, by k_mem, by k_mem, by k_mem, by k_mem, by k_mem, by k_mem, trivial⟩
      exact @next _ _ _ _ 0 _ _ _ _ (fr_as2 (x := ("count" : Str)) (y := ("dues" : Str)) Fx rfl rfl) N9 (.int fun u => by unfold jv2; rw [if_pos hq]) (.int fun u => by unfold ov2; rw [if_pos hq]) (.int fun u => by unfold tv2; rw [if_pos hq]) (.int fun u => by unfold sv2; rw [if_pos hq]) ht
    · rw [decide_eq_false fun q => hq (hts.mp q)]
      k_steps
      all_goals (try (with_reducible show Halt (wpAny _ _ _ _ _ _); refine Halt.mk ?_))
      refine ⟨wpAny_tk 12 (by repeat (first | assumption | refine Nat.le_succ_of_le ?_)) ?_⟩
      refine wpAny_isTrue_Compare1 ?_
      k_steps
      all_goals (try (with_reducible show Halt (wpAny _ _ _ _ _ _); refine Halt.mk ?_))
      refine ⟨Call_ ?_⟩
      k_steps
      all_goals (try (with_reducible show Halt (wpAny _ _ _ _ _ _); refine Halt.mk ?_))
      (with_reducible rename Fr _ _ _ _ => Fa)
      (with_reducible rename News _ _ _ _ => Na)
      refine kso_min Fa Na ⟨_, Na.get (show (Z, _) ∈ _ from by k_mem), rfl, ⟨eZ, rfl⟩⟩ (.cons _ _ (.cons _ _ (.nil))) (Nat.zero_lt_succ _) (by walk_at "m_hand") ?_
      intro h8 M8 t8 tk8 F8 N8 hM hlow
      have eM := least2 hM hlow
      subst eM
      clear Fa Na hM hlow
      k_steps
      all_goals (try (with_reducible show Halt (wpAny _ _ _ _ _ _); refine Halt.mk ?_))
      · have hm : n1 = [] ∨ n2 = [] := by
          apply Classical.byContradiction
          intro q
          simp only [not_or] at q
          have := size_pos (b := b) q.1
          have := size_pos (b := b) q.2
          omega
        (with_reducible rename Fr _ _ _ _ => Fx)
        (with_reducible rename News _ _ _ _ => Nx2)
        refine ⟨rfl, fun ht => ?_⟩
        have N9 : News h₀ L _ [(_, PySem.W.listOf (List.toArray [.int 0 _, .int 0 _, .int 0 _, .int 0 _]) 0), (R, _), (r1, _), (r2, _), (H, _), (L + 1, _), (L + 1 + 1, _), (L + 1 + 1 + 1, _), (L + 1 + 1 + 1 + 1, _), (L + 1 + 1 + 1 + 1 + 1, _), (L + 1 + 1 + 1 + 1 + 1 + 1, _), (L + 1 + 1 + 1 + 1 + 1 + 1 + 1, _), (L + 1 + 1 + 1 + 1 + 1 + 1 + 1 + 1, _)] := news_pick Nx2 ⟨by k_mem, by k_mem, by k_mem, by k_mem, by k_mem, by k_mem, by k_mem, by k_mem, by k_mem, by k_mem, by k_mem, by k_mem, by k_mem, trivial⟩
        exact @next _ _ _ _ 0 _ _ _ _ (fr_as2 (x := ("count" : Str)) (y := ("dues" : Str)) Fx rfl rfl) N9 (.int fun u => by unfold jv2; rw [if_neg hq, if_pos hm]) (.int fun u => by unfold ov2; rw [if_neg hq, if_pos hm]) (.int fun u => by unfold tv2; rw [if_neg hq, if_pos hm]) (.int fun u => by unfold sv2; rw [if_neg hq, if_pos hm]) ht
      · have hm : ¬ (n1 = [] ∨ n2 = []) := by
          rintro (rfl | rfl)
          · have := size_le (b := b) (n1 := ([] : List Int))
            have := size_nonneg (b := b) (n1 := ([] : List Int))
            simp only [List.length_nil] at *
            omega
          · have := size_le (b := b) (n1 := ([] : List Int))
            have := size_nonneg (b := b) (n1 := ([] : List Int))
            simp only [List.length_nil] at *
            omega
        simp only [not_or] at hm
        have t1 := size_pos (b := b) hm.1
        have t2 := size_pos (b := b) hm.2
        have hm1 : IntMulOk z1 (cc b (cnt n1) - cc b (cand (cnt n1) (cnt n2))) := mul_small (by omega) hw1.2
        have w1' : cc b (cnt n1) - cc b (cand (cnt n1) (cnt n2)) ≤ z1 * (cc b (cnt n1) - cc b (cand (cnt n1) (cnt n2))) := by
          have := Int.mul_nonneg (show 0 ≤ z1 - 1 by omega) (show 0 ≤ cc b (cnt n1) - cc b (cand (cnt n1) (cnt n2)) by omega)
          rw [Int.sub_mul, Int.one_mul] at this
          omega
        have hm2 : IntMulOk z2 (cc b (cnt n2) - cc b (cand (cnt n1) (cnt n2))) := mul_small (by omega) hw2.2
        have w2' : cc b (cnt n2) - cc b (cand (cnt n1) (cnt n2)) ≤ z2 * (cc b (cnt n2) - cc b (cand (cnt n1) (cnt n2))) := by
          have := Int.mul_nonneg (show 0 ≤ z2 - 1 by omega) (show 0 ≤ cc b (cnt n2) - cc b (cand (cnt n1) (cnt n2)) by omega)
          rw [Int.sub_mul, Int.one_mul] at this
          omega
        k_steps
        all_goals (try (with_reducible show Halt (wpAny _ _ _ _ _ _); refine Halt.mk ?_))
        refine ⟨wpAny_tk 12 (by repeat (first | assumption | refine Nat.le_succ_of_le ?_)) ?_⟩
        refine Call_ ?_
        k_steps
        all_goals (try (with_reducible show Halt (wpAny _ _ _ _ _ _); refine Halt.mk ?_))
        refine ⟨anyComp (h₀ := h₀) (fun v => match v with | .int k _ => (fun _ => true) k.toNat | _ => false) (fun v y => ∃ k t u, v = Value.int k t ∧ y = Value.int ((fun i : Nat => if i = 0 then z1 * (cc b (cnt n1) - cc b (cand (cnt n1) (cnt n2))) else z2 * (cc b (cnt n2) - cc b (cand (cnt n1) (cnt n2)))) k.toNat) u) rfl (by decide) rfl (by decide) rfl ?_⟩
        k_steps
        all_goals (try (with_reducible show Halt (wpAny _ _ _ _ _ _); refine Halt.mk ?_))
        refine ⟨Call_ ?_⟩
        k_steps
        all_goals (try (with_reducible show Halt (wpAny _ _ _ _ _ _); refine Halt.mk ?_))
        (with_reducible rename Fr _ _ _ _ => Fy)
        (with_reducible rename News _ _ _ _ => Nw)
        refine ⟨⟨_, _, 2, _, Fy, Nw, src_range (by walk_at "m_hand") (by assumption) (by omega), by omega, ?_, ?_, ?_⟩⟩
        · intro C2 j v2 s₄ m₄ E2 hvj hm2 F4 N4
          obtain ⟨hj, tj, rfl⟩ := hvj
          rw [List.forIn_nil]
          exact wpAny_pure ⟨rfl, _, _, rfl, fun _ _ e => e⟩
        · intro C2 j v2 s₄ m₄ E2 hvj hp2 hm2 F4 N4
          obtain ⟨hj, tj, rfl⟩ := hvj
          have hn4 := F4.ns
          have X4 := X.keeps F4.keep
          have T4 := T.keeps F4.keep
          have g24 := N4.get (show (L + 1 + 1, _) ∈ _ from by k_mem)
          have g74 := N4.get (show (L + 1 + 1 + 1 + 1 + 1 + 1 + 1, _) ∈ _ from by k_mem)
          have g84 := N4.get (show (L + 1 + 1 + 1 + 1 + 1 + 1 + 1 + 1, _) ∈ _ from by k_mem)
          clear Fy Nw
          rcases j with _ | _ | j
          · replace hm2 : m₄ ("k" : Str) = some (.int 0 tj) := hm2
            k_steps
            all_goals (try (with_reducible show Halt (wpAny _ _ _ _ _ _); refine Halt.mk ?_))
            exact ⟨_, _, rfl, fun _ _ e => e⟩
          · replace hm2 : m₄ ("k" : Str) = some (.int 1 tj) := hm2
            k_steps
            all_goals (try (with_reducible show Halt (wpAny _ _ _ _ _ _); refine Halt.mk ?_))
            exact ⟨_, _, rfl, fun _ _ e => e⟩
          · omega
        · intro D2 h9 tk9 ts2 vs2' e2 hD2 F9 N9 hlen9 hvs9 hP9 hkD9
          replace F9 : Fr h₀ L h9 _ := F9
          replace N9 : News h₀ L h9 _ := N9
          have It := ints_comp (pz := fun _ => true) (g := fun i : Nat => if i = 0 then z1 * (cc b (cnt n1) - cc b (cand (cnt n1) (cnt n2))) else z2 * (cc b (cnt n2) - cc b (cand (cnt n1) (cnt n2)))) hlen9 hvs9 hP9
          clear Fy Nw
          k_steps
          all_goals (try (with_reducible show Halt (wpAny _ _ _ _ _ _); refine Halt.mk ?_))
          refine ⟨sumKeep (by walk_at "m_hand") ⟨_, N9.get (.head _), rfl, _, rfl⟩ It (fun h6 tk6 t6 k6 => ?_)⟩
          intro ht6
          replace ht6 : 12 ≤ tk6 := ht6
          rw [show (((List.range 2).filter fun _ => true).map (fun i : Nat => if i = 0 then z1 * (cc b (cnt n1) - cc b (cand (cnt n1) (cnt n2))) else z2 * (cc b (cnt n2) - cc b (cand (cnt n1) (cnt n2))))).sum = z1 * (cc b (cnt n1) - cc b (cand (cnt n1) (cnt n2))) + z2 * (cc b (cnt n2) - cc b (cand (cnt n1) (cnt n2))) from by
            show List.sum [z1 * (cc b (cnt n1) - cc b (cand (cnt n1) (cnt n2))), z2 * (cc b (cnt n2) - cc b (cand (cnt n1) (cnt n2)))] = _
            simp only [List.sum_cons, List.sum_nil]
            omega]
          have F6 := fr_grow F9 k6
          have N6 := news_grow N9 k6
          clear F9 N9
          k_steps
          all_goals (try (with_reducible show Halt (wpAny _ _ _ _ _ _); refine Halt.mk ?_))
          (try dsimp only)
          refine PySem.Flt.div_ii_fits (by walk_at "m_hand") (abs_small a0 (by omega)) (fun e => absurd e (by omega)) (fun _ _ => ?_)
          k_steps
          all_goals (try (with_reducible show Halt (wpAny _ _ _ _ _ _); refine Halt.mk ?_))
          refine ⟨wpAny_tk 12 (by repeat (first | assumption | refine Nat.le_succ_of_le ?_)) ?_⟩
          refine Call_ ?_
          k_steps
          all_goals (try (with_reducible show Halt (wpAny _ _ _ _ _ _); refine Halt.mk ?_))
          (with_reducible rename Fr _ _ _ _ => Fa)
          (with_reducible rename News _ _ _ _ => Na)
          refine kso_min Fa Na ⟨_, Na.get (show (Z, _) ∈ _ from by k_mem), rfl, ⟨eZ, rfl⟩⟩ (.cons _ _ (.cons _ _ (.nil))) (Nat.zero_lt_succ _) (by walk_at "m_hand") ?_
          intro h7 M7 t7 tk7 F7 N7 hM hlow
          intro ht7
          replace ht7 : 12 ≤ tk7 := ht7
          have eM := least2 hM hlow
          subst eM
          clear Fa Na hM hlow
          k_steps
          all_goals (try (with_reducible show Halt (wpAny _ _ _ _ _ _); refine Halt.mk ?_))
          (try dsimp only)
          refine PySem.Flt.div_ii_fits (by walk_at "m_hand") (abs_small a0 (by omega)) (fun e => absurd e (by omega)) (fun _ _ => ?_)
          k_steps
          all_goals (try (with_reducible show Halt (wpAny _ _ _ _ _ _); refine Halt.mk ?_))
          (try dsimp only)
          refine PySem.Flt.div_ii_fits (by walk_at "m_hand") (abs_small a0 (by omega)) (fun e => absurd e (by omega)) (fun _ _ => ?_)
          k_steps
          all_goals (try (with_reducible show Halt (wpAny _ _ _ _ _ _); refine Halt.mk ?_))
          refine ⟨wpAny_tk 12 (by repeat (first | assumption | refine Nat.le_succ_of_le ?_)) ?_⟩
          refine Call_ ?_
          k_steps
          all_goals (try (with_reducible show Halt (wpAny _ _ _ _ _ _); refine Halt.mk ?_))
          (with_reducible rename Fr _ _ _ _ => Fa)
          (with_reducible rename News _ _ _ _ => Na)
          refine ⟨sumKeep (by walk_at "m_hand") (vs := [.int (cc b (cnt n1)) x1, .int (cc b (cnt n2)) x2]) ⟨_, Na.get (show (Z, _) ∈ _ from by k_mem), rfl, eZ, rfl⟩ (.cons _ _ (.cons _ _ (.nil))) (fun h4 tk4 t4 k4 => ?_)⟩
          intro ht4
          replace ht4 : 12 ≤ tk4 := ht4
          rw [show List.sum [cc b (cnt n1), cc b (cnt n2)] = cc b (cnt n1) + cc b (cnt n2) from by simp only [List.sum_cons, List.sum_nil]; omega]
          have Fb := fr_grow Fa k4
          have Nb := news_grow Na k4
          clear Fa Na
          k_steps
          all_goals (try (with_reducible show Halt (wpAny _ _ _ _ _ _); refine Halt.mk ?_))
          (try dsimp only)
          refine PySem.Flt.div_ii_fits (by walk_at "m_hand") (abs_small (by omega) (by omega)) (fun e => absurd e (by omega)) (fun _ _ => ?_)
          k_steps
          all_goals (try (with_reducible show Halt (wpAny _ _ _ _ _ _); refine Halt.mk ?_))
          (with_reducible rename Fr _ _ _ _ => Fx)
          (with_reducible rename News _ _ _ _ => Nx2)
          refine ⟨rfl, fun ht => ?_⟩
          have N9 : News h₀ L _ [(_, PySem.W.listOf (List.toArray [.float _ _, .float _ _, .float _ _, .float _ _]) 0), (R, _), (r1, _), (r2, _), (H, _), (L + 1, _), (L + 1 + 1, _), (L + 1 + 1 + 1, _), (L + 1 + 1 + 1 + 1, _), (L + 1 + 1 + 1 + 1 + 1, _), (L + 1 + 1 + 1 + 1 + 1 + 1, _), (L + 1 + 1 + 1 + 1 + 1 + 1 + 1, _), (L + 1 + 1 + 1 + 1 + 1 + 1 + 1 + 1, _)] := news_pick Nx2 ⟨by k_mem, by k_mem, by k_mem, by k_mem, by k_mem, by k_mem, by k_mem, by k_mem, by k_mem, by k_mem, by k_mem, by k_mem, by k_mem, trivial⟩
          exact @next _ _ _ _ 0 _ _ _ _ (fr_as2 (x := ("count" : Str)) (y := ("dues" : Str)) Fx rfl rfl) N9 (.flt (tok_ne (Nat.le_trans (by decide) (show 12 ≤ _ from by repeat (first | assumption | refine Nat.le_succ_of_le ?_)))) (fun u => by unfold jv2; rw [if_neg hq, if_neg (by simp only [not_or]; exact hm)]; rfl) (quo_nan _ _)) (.flt (tok_ne (Nat.le_trans (by decide) (show 12 ≤ _ from by repeat (first | assumption | refine Nat.le_succ_of_le ?_)))) (fun u => by unfold ov2; rw [if_neg hq, if_neg (by simp only [not_or]; exact hm)]; rfl) (quo_nan _ _)) (.flt (tok_ne (Nat.le_trans (by decide) (show 12 ≤ _ from by repeat (first | assumption | refine Nat.le_succ_of_le ?_)))) (fun u => by unfold tv2; rw [if_neg hq, if_neg (by simp only [not_or]; exact hm)]; simp only [Int.add_assoc]; rfl) (quo_nan _ _)) (.flt (tok_ne (Nat.le_trans (by decide) (show 12 ≤ _ from by repeat (first | assumption | refine Nat.le_succ_of_le ?_)))) (fun u => by unfold sv2; rw [if_neg hq, if_neg (by simp only [not_or]; exact hm), sor_quo a0 (by omega) (by omega) (by omega)]; rfl) (quo_nan _ _)) ht
theorem seg_dues3 {prog : Program} {w : World} {A : Around} {p : Program} {loose : List Str} {mg mb : Str → Option Value} {bm : Addr} {ob : Obj} {s : Shared} {h₀ : Heap} {L : Addr} {Q : Flow → Shared → Prop} {u : Str → Option Value} {tc : Tok} {R H r1 r2 r3 : Addr} {vs1 vs2 vs3 : List Value} {n1 n2 n3 : List Int} {eR eH f1 f2 f3 : Nat} {b : Bool} {z1 z2 z3 : Int} {w1 w2 w3 : Tok} {o1 o2 o3 o4 o5 o6 o7 o8 : Obj} {K : Addr} {vk : List Value} {eK : Nat} {kd : List Int} {v3 v4 : Option Value} {zU zS s1 s2 s3 : Int} {tU tS : Tok} {Z : Addr} {eZ : Nat} {x1 x2 x3 : Tok}
    (X : (hd.heap_39 w.params).In h₀) (T : TopRead p loose mg mb h₀) (hA : A.handled = none) (hd : A.depth + 90 < recursionLimit) (hu : A.units + 500 < cLine)
    (F : Fr h₀ L s.heap (fun y => if y = "united" then some (.int zU tU) else if y = "count" then some (.int 3 tc) else u y))
    (N : News h₀ L s.heap [(Z, PySem.W.listOf (List.toArray [.int s1 x1, .int s2 x2, .int s3 x3]) eZ), (K, PySem.W.listOf vk.toArray eK), (R, PySem.W.listOf (List.toArray [.ref r1, .ref r2, .ref r3]) eR), (r1, ({ cls := .type "tuple", data := .seq vs1.toArray f1 } : Obj)), (r2, ({ cls := .type "tuple", data := .seq vs2.toArray f2 } : Obj)), (r3, ({ cls := .type "tuple", data := .seq vs3.toArray f3 } : Obj)), (H, PySem.W.listOf (List.toArray [.int z1 w1, .int z2 w2, .int z3 w3]) eH), (L + 1, o1), (L + 1 + 1, o2), (L + 1 + 1 + 1, o3), (L + 1 + 1 + 1 + 1, o4), (L + 1 + 1 + 1 + 1 + 1, o5), (L + 1 + 1 + 1 + 1 + 1 + 1, o6), (L + 1 + 1 + 1 + 1 + 1 + 1 + 1, o7), (L + 1 + 1 + 1 + 1 + 1 + 1 + 1 + 1, o8)])
    (oR : (@LT.lt Nat _ R (L + 1) ∨ @LT.lt Nat _ (L + 8) R)) (or1 : (@LT.lt Nat _ r1 (L + 1) ∨ @LT.lt Nat _ (L + 8) r1)) (or2 : (@LT.lt Nat _ r2 (L + 1) ∨ @LT.lt Nat _ (L + 8) r2)) (or3 : (@LT.lt Nat _ r3 (L + 1) ∨ @LT.lt Nat _ (L + 8) r3)) (oH : (@LT.lt Nat _ H (L + 1) ∨ @LT.lt Nat _ (L + 8) H))
    (oK : (@LT.lt Nat _ K (L + 1) ∨ @LT.lt Nat _ (L + 8) K)) (IK : IntsAre vk kd) (hkd : kd.length ≤ 300)
    (oZ : (@LT.lt Nat _ Z (L + 1) ∨ @LT.lt Nat _ (L + 8) Z))
    (d1 : o1.data = .cell (some (.bool b))) (d2 : o2.data = .cell (some (.ref H))) (d3 : o3.data = .cell v3) (d4 : o4.data = .cell v4) (d5 : o5.data = .cell (some (.ref R))) (d6 : o6.data = .cell (some (.ref K))) (d7 : o7.data = .cell (some (.int zS tS))) (d8 : o8.data = .cell (some (.ref Z)))
    (I1 : IntsAre vs1 n1) (hz1 : n1.length ≤ 100) (I2 : IntsAre vs2 n2) (hz2 : n2.length ≤ 100) (I3 : IntsAre vs3 n3) (hz3 : n3.length ≤ 100)
    (hS : zS = cc b (cand (cand (cnt n1) (cnt n2)) (cnt n3))) (hU : zU = cc b (cor (cor (cnt n1) (cnt n2)) (cnt n3))) (hs1 : s1 = cc b (cnt n1)) (hs2 : s2 = cc b (cnt n2)) (hs3 : s3 = cc b (cnt n3)) (hlen : n1.length + n2.length + n3.length ≤ 16) (hw1 : 1 ≤ z1 ∧ z1 ≤ 5) (hw2 : 1 ≤ z2 ∧ z2 ≤ 5) (hw3 : 1 ≤ z3 ∧ z3 ≤ 5)
    (ht : 12 ≤ s.toks)
    (next : ∀ (h' : Heap) (tk : Nat) (u' : Str → Option Value) (Du : Addr) (eD : Nat) (y1 y2 y3 y4 : Value), Fr h₀ L h' (fun y => if y = "dues" then some (.ref Du) else if y = "count" then some (.int 3 tc) else u' y) → News h₀ L h' [(Du, PySem.W.listOf (List.toArray [y1, y2, y3, y4]) eD), (R, PySem.W.listOf (List.toArray [.ref r1, .ref r2, .ref r3]) eR), (r1, ({ cls := .type "tuple", data := .seq vs1.toArray f1 } : Obj)), (r2, ({ cls := .type "tuple", data := .seq vs2.toArray f2 } : Obj)), (r3, ({ cls := .type "tuple", data := .seq vs3.toArray f3 } : Obj)), (H, PySem.W.listOf (List.toArray [.int z1 w1, .int z2 w2, .int z3 w3]) eH), (L + 1, o1), (L + 1 + 1, o2), (L + 1 + 1 + 1, o3), (L + 1 + 1 + 1 + 1, o4), (L + 1 + 1 + 1 + 1 + 1, o5), (L + 1 + 1 + 1 + 1 + 1 + 1, o6), (L + 1 + 1 + 1 + 1 + 1 + 1 + 1, o7), (L + 1 + 1 + 1 + 1 + 1 + 1 + 1 + 1, o8)] → Same (jv3 b n1 n2 n3) y1 → Same (ov3 b n1 n2 n3) y2 → Same (tv3 b n1 n2 n3 z1 z2 z3) y3 → 12 ≤ tk →
      wpAny (model prog w) A (execs (lawIs w 13) (lawEnv w L)) Q noE { s with heap := h', toks := tk }) :
    Hold (wpAny (model prog w) A (execs (lawIs w 12) (lawEnv w L)) Q noE s) := by
  refine ⟨?_⟩
  conv =>
    arg 3
    arg 1
    whnf
  conv =>
    arg 3
    arg 2
    whnf
  change wpAny _ _ (execs _ (envOfC (PySem.Str.ofString "law") _ L 387 (.ref 386))) _ _ _
  have p1 := size_nonneg (b := b) (n1 := n1)
  have q1 := size_le (b := b) (n1 := n1)
  have p2 := size_nonneg (b := b) (n1 := n2)
  have q2 := size_le (b := b) (n1 := n2)
  have p3 := size_nonneg (b := b) (n1 := n3)
  have q3 := size_le (b := b) (n1 := n3)
  have a0 := and3_nonneg (b := b) (n1 := n1) (n2 := n2) (n3 := n3)
  have a1 := and3_le1 (b := b) (n1 := n1) (n2 := n2) (n3 := n3)
  have a2 := and3_le2 (b := b) (n1 := n1) (n2 := n2) (n3 := n3)
  have a3 := and3_le3 (b := b) (n1 := n1) (n2 := n2) (n3 := n3)
  have a4 := or3_ge (b := b) (n1 := n1) (n2 := n2) (n3 := n3)
  subst hS hU hs1 hs2 hs3
  refine one_stmtT 12 ht ?_
  k_steps
  all_goals (try (with_reducible show Halt (wpAny _ _ _ _ _ _); refine Halt.mk ?_))
  refine ⟨wpAny_tk 12 (by repeat (first | assumption | refine Nat.le_succ_of_le ?_)) ?_⟩
  refine wpAny_isTrue_Compare1 ?_
  k_steps
  all_goals (try (with_reducible show Halt (wpAny _ _ _ _ _ _); refine Halt.mk ?_))
  obtain ⟨G, g1, g2, g3⟩ := pickR3 (h := s.heap) (fun l => if n1 = l then 0 else 1) ⟨vs1, ⟨_, N.get (show (r1, _) ∈ _ from by k_mem), rfl, f1, rfl⟩, I1⟩ ⟨vs2, ⟨_, N.get (show (r2, _) ∈ _ from by k_mem), rfl, f2, rfl⟩, I2⟩ ⟨vs3, ⟨_, N.get (show (r3, _) ∈ _ from by k_mem), rfl, f3, rfl⟩, I3⟩
  rw [if_pos rfl] at g1
  refine ⟨anyComp (h₀ := h₀) (fun v => decide (G.g v ≠ 0)) (fun v y => y = v) rfl (by decide) rfl (by decide) rfl ?_⟩
  k_steps
  all_goals (try (with_reducible show Halt (wpAny _ _ _ _ _ _); refine Halt.mk ?_))
  refine ⟨⟨_, _, _, _, F, N, src_list (vs := [.ref r1, .ref r2, .ref r3]) (by walk_at "m_hand") ⟨_, N.get (show (R, _) ∈ _ from by k_mem), rfl, eR, rfl⟩, by simp, ?_, ?_, ?_⟩⟩
  · intro C i v s₃ m₃ E' hvi hm Fc Nc
    obtain ⟨r, ns, rfl, hg, Rr⟩ : ∃ (r : Addr) (ns : List Int), v = .ref r ∧ G.g (.ref r) = (if n1 = ns then 0 else 1) ∧ RowAt s₃.heap r ns := by
      rcases i with _ | _ | _ | i
      · cases hvi; exact ⟨r1, n1, rfl, g1.trans (if_pos rfl).symm, ⟨vs1, ⟨_, Nc.get (show (r1, _) ∈ _ from by k_mem), rfl, f1, rfl⟩, I1⟩⟩
      · cases hvi; exact ⟨r2, n2, rfl, g2, ⟨vs2, ⟨_, Nc.get (show (r2, _) ∈ _ from by k_mem), rfl, f2, rfl⟩, I2⟩⟩
      · cases hvi; exact ⟨r3, n3, rfl, g3, ⟨vs3, ⟨_, Nc.get (show (r3, _) ∈ _ from by k_mem), rfl, f3, rfl⟩, I3⟩⟩
      · cases hvi
    have R1c : RowAt s₃.heap r1 n1 := ⟨vs1, ⟨_, Nc.get (show (r1, _) ∈ _ from by k_mem), rfl, f1, rfl⟩, I1⟩
    have hn := Fc.ns
    have g5 := Nc.get (show (L + 1 + 1 + 1 + 1 + 1, _) ∈ _ from by k_mem)
    show wpAny _ _ _ (fun ok s₄ => ok = decide (G.g (.ref r) ≠ 0) ∧ Keeps s₃ s₄) _ _
    rw [hg, show decide ((if n1 = ns then (0 : Int) else 1) ≠ 0) = decide (ns ≠ n1) by by_cases e : n1 = ns <;> simp [e, eq_comm]]
    k_steps
    all_goals (try (with_reducible show Halt (wpAny _ _ _ _ _ _); refine Halt.mk ?_))
    refine ⟨wpAny_isTrue_Compare1 ?_⟩
    k_steps
    all_goals (try (with_reducible show Halt (wpAny _ _ _ _ _ _); refine Halt.mk ?_))
    exact ⟨_, _, rfl, fun _ _ e => e⟩
  · intro C i v s₃ m₃ E' hvi hp hm Fc Nc
    have hn := Fc.ns
    k_steps
    all_goals (try (with_reducible show Halt (wpAny _ _ _ _ _ _); refine Halt.mk ?_))
    exact ⟨_, _, rfl, fun _ _ e => e⟩
  · intro D h5 tk5 ts vs' e hD F5 N5 hlen5 hvs hP hkD
    have ev := items_same rfl hlen5 hvs
    subst ev
    replace F5 : Fr h₀ L h5 _ := F5
    replace N5 : News h₀ L h5 _ := N5
    have hts : ts = [] ↔ n1 = n2 ∧ n1 = n3 := by
      rw [← List.length_eq_zero_iff, paired_len hP, List.length_eq_zero_iff, List.filter_eq_nil_iff]
      simp only [List.mem_cons, List.not_mem_nil, or_false, forall_eq_or_imp, forall_eq, g1, g2, g3]
      by_cases e2 : n1 = n2 <;> by_cases e3 : n1 = n3 <;> simp [e2, e3]
    clear F N
    k_steps
    all_goals (try (with_reducible show Halt (wpAny _ _ _ _ _ _); refine Halt.mk ?_))
    (with_reducible rename News _ _ _ _ => Nx)
    refine ⟨q_nil ⟨_, Nx.get (show (D, _) ∈ _ from by k_mem), rfl, e, rfl⟩ ⟨_, Nx.get (.head _), rfl, 0, rfl⟩ (by walk_at "m_units") ?_⟩
    by_cases hq : n1 = n2 ∧ n1 = n3
    · rw [decide_eq_true (hts.mpr hq)]
      k_steps
      all_goals (try (with_reducible show Halt (wpAny _ _ _ _ _ _); refine Halt.mk ?_))
      (with_reducible rename Fr _ _ _ _ => Fx)
      (with_reducible rename News _ _ _ _ => Nx2)
      refine ⟨rfl, fun ht => ?_⟩
      have N9 : News h₀ L _ [(_, PySem.W.listOf (List.toArray [.int 1 _, .int 1 _, .int 1 _, .int 1 _]) 0), (R, _), (r1, _), (r2, _), (r3, _), (H, _), (L + 1, _), (L + 1 + 1, _), (L + 1 + 1 + 1, _), (L + 1 + 1 + 1 + 1, _), (L + 1 + 1 + 1 + 1 + 1, _), (L + 1 + 1 + 1 + 1 + 1 + 1, _), (L + 1 + 1 + 1 + 1 + 1 + 1 + 1, _), (L + 1 + 1 + 1 + 1 + 1 + 1 + 1 + 1, _)] := news_pick Nx2 ⟨by k_mem, by k_mem, by k_mem, by k_mem, by k_mem, by k_mem, by k_mem, by k_mem, by k_mem, by k_mem, by k_mem, by k_mem, by k_mem, by k_mem, trivial⟩
      exact @next _ _ _ _ 0 _ _ _ _ (fr_as2 (x := ("count" : Str)) (y := ("dues" : Str)) Fx rfl rfl) N9 (.int fun u => by unfold jv3; rw [if_pos hq]) (.int fun u => by unfold ov3; rw [if_pos hq]) (.int fun u => by unfold tv3; rw [if_pos hq]) ht
    · rw [decide_eq_false fun q => hq (hts.mp q)]
      k_steps
      all_goals (try (with_reducible show Halt (wpAny _ _ _ _ _ _); refine Halt.mk ?_))
      refine ⟨wpAny_tk 12 (by repeat (first | assumption | refine Nat.le_succ_of_le ?_)) ?_⟩
      refine wpAny_isTrue_Compare1 ?_
      k_steps
      all_goals (try (with_reducible show Halt (wpAny _ _ _ _ _ _); refine Halt.mk ?_))
      refine ⟨Call_ ?_⟩
      k_steps
      all_goals (try (with_reducible show Halt (wpAny _ _ _ _ _ _); refine Halt.mk ?_))
      (with_reducible rename Fr _ _ _ _ => Fa)
      (with_reducible rename News _ _ _ _ => Na)
      refine kso_min Fa Na ⟨_, Na.get (show (Z, _) ∈ _ from by k_mem), rfl, ⟨eZ, rfl⟩⟩ (.cons _ _ (.cons _ _ (.cons _ _ (.nil)))) (Nat.zero_lt_succ _) (by walk_at "m_hand") ?_
      intro h8 M8 t8 tk8 F8 N8 hM hlow
      have eM := least3 hM hlow
      subst eM
      clear Fa Na hM hlow
      k_steps
      all_goals (try (with_reducible show Halt (wpAny _ _ _ _ _ _); refine Halt.mk ?_))
      · have hm : n1 = [] ∨ n2 = [] ∨ n3 = [] := by
          apply Classical.byContradiction
          intro q
          simp only [not_or] at q
          have := size_pos (b := b) q.1
          have := size_pos (b := b) q.2.1
          have := size_pos (b := b) q.2.2
          omega
        (with_reducible rename Fr _ _ _ _ => Fx)
        (with_reducible rename News _ _ _ _ => Nx2)
        refine ⟨rfl, fun ht => ?_⟩
        have N9 : News h₀ L _ [(_, PySem.W.listOf (List.toArray [.int 0 _, .int 0 _, .int 0 _, .int 0 _]) 0), (R, _), (r1, _), (r2, _), (r3, _), (H, _), (L + 1, _), (L + 1 + 1, _), (L + 1 + 1 + 1, _), (L + 1 + 1 + 1 + 1, _), (L + 1 + 1 + 1 + 1 + 1, _), (L + 1 + 1 + 1 + 1 + 1 + 1, _), (L + 1 + 1 + 1 + 1 + 1 + 1 + 1, _), (L + 1 + 1 + 1 + 1 + 1 + 1 + 1 + 1, _)] := news_pick Nx2 ⟨by k_mem, by k_mem, by k_mem, by k_mem, by k_mem, by k_mem, by k_mem, by k_mem, by k_mem, by k_mem, by k_mem, by k_mem, by k_mem, by k_mem, trivial⟩
        exact @next _ _ _ _ 0 _ _ _ _ (fr_as2 (x := ("count" : Str)) (y := ("dues" : Str)) Fx rfl rfl) N9 (.int fun u => by unfold jv3; rw [if_neg hq, if_pos hm]) (.int fun u => by unfold ov3; rw [if_neg hq, if_pos hm]) (.int fun u => by unfold tv3; rw [if_neg hq, if_pos hm]) ht
      · have hm : ¬ (n1 = [] ∨ n2 = [] ∨ n3 = []) := by
          rintro (rfl | rfl | rfl)
          · have := size_le (b := b) (n1 := ([] : List Int))
            have := size_nonneg (b := b) (n1 := ([] : List Int))
            simp only [List.length_nil] at *
            omega
          · have := size_le (b := b) (n1 := ([] : List Int))
            have := size_nonneg (b := b) (n1 := ([] : List Int))
            simp only [List.length_nil] at *
            omega
          · have := size_le (b := b) (n1 := ([] : List Int))
            have := size_nonneg (b := b) (n1 := ([] : List Int))
            simp only [List.length_nil] at *
            omega
        simp only [not_or] at hm
        have t1 := size_pos (b := b) hm.1
        have t2 := size_pos (b := b) hm.2.1
        have t3 := size_pos (b := b) hm.2.2
        have hm1 : IntMulOk z1 (cc b (cnt n1) - cc b (cand (cand (cnt n1) (cnt n2)) (cnt n3))) := mul_small (by omega) hw1.2
        have w1' : cc b (cnt n1) - cc b (cand (cand (cnt n1) (cnt n2)) (cnt n3)) ≤ z1 * (cc b (cnt n1) - cc b (cand (cand (cnt n1) (cnt n2)) (cnt n3))) := by
          have := Int.mul_nonneg (show 0 ≤ z1 - 1 by omega) (show 0 ≤ cc b (cnt n1) - cc b (cand (cand (cnt n1) (cnt n2)) (cnt n3)) by omega)
          rw [Int.sub_mul, Int.one_mul] at this
          omega
        have hm2 : IntMulOk z2 (cc b (cnt n2) - cc b (cand (cand (cnt n1) (cnt n2)) (cnt n3))) := mul_small (by omega) hw2.2
        have w2' : cc b (cnt n2) - cc b (cand (cand (cnt n1) (cnt n2)) (cnt n3)) ≤ z2 * (cc b (cnt n2) - cc b (cand (cand (cnt n1) (cnt n2)) (cnt n3))) := by
          have := Int.mul_nonneg (show 0 ≤ z2 - 1 by omega) (show 0 ≤ cc b (cnt n2) - cc b (cand (cand (cnt n1) (cnt n2)) (cnt n3)) by omega)
          rw [Int.sub_mul, Int.one_mul] at this
          omega
        have hm3 : IntMulOk z3 (cc b (cnt n3) - cc b (cand (cand (cnt n1) (cnt n2)) (cnt n3))) := mul_small (by omega) hw3.2
        have w3' : cc b (cnt n3) - cc b (cand (cand (cnt n1) (cnt n2)) (cnt n3)) ≤ z3 * (cc b (cnt n3) - cc b (cand (cand (cnt n1) (cnt n2)) (cnt n3))) := by
          have := Int.mul_nonneg (show 0 ≤ z3 - 1 by omega) (show 0 ≤ cc b (cnt n3) - cc b (cand (cand (cnt n1) (cnt n2)) (cnt n3)) by omega)
          rw [Int.sub_mul, Int.one_mul] at this
          omega
        k_steps
        all_goals (try (with_reducible show Halt (wpAny _ _ _ _ _ _); refine Halt.mk ?_))
        refine ⟨wpAny_tk 12 (by repeat (first | assumption | refine Nat.le_succ_of_le ?_)) ?_⟩
        refine Call_ ?_
        k_steps
        all_goals (try (with_reducible show Halt (wpAny _ _ _ _ _ _); refine Halt.mk ?_))
        refine ⟨anyComp (h₀ := h₀) (fun v => match v with | .int k _ => (fun _ => true) k.toNat | _ => false) (fun v y => ∃ k t u, v = Value.int k t ∧ y = Value.int ((fun i : Nat => if i = 0 then z1 * (cc b (cnt n1) - cc b (cand (cand (cnt n1) (cnt n2)) (cnt n3))) else if i = 1 then z2 * (cc b (cnt n2) - cc b (cand (cand (cnt n1) (cnt n2)) (cnt n3))) else z3 * (cc b (cnt n3) - cc b (cand (cand (cnt n1) (cnt n2)) (cnt n3)))) k.toNat) u) rfl (by decide) rfl (by decide) rfl ?_⟩
        k_steps
        all_goals (try (with_reducible show Halt (wpAny _ _ _ _ _ _); refine Halt.mk ?_))
        refine ⟨Call_ ?_⟩
        k_steps
        all_goals (try (with_reducible show Halt (wpAny _ _ _ _ _ _); refine Halt.mk ?_))
        (with_reducible rename Fr _ _ _ _ => Fy)
        (with_reducible rename News _ _ _ _ => Nw)
        refine ⟨⟨_, _, 3, _, Fy, Nw, src_range (by walk_at "m_hand") (by assumption) (by omega), by omega, ?_, ?_, ?_⟩⟩
        · intro C2 j v2 s₄ m₄ E2 hvj hm2 F4 N4
          obtain ⟨hj, tj, rfl⟩ := hvj
          rw [List.forIn_nil]
          exact wpAny_pure ⟨rfl, _, _, rfl, fun _ _ e => e⟩
        · intro C2 j v2 s₄ m₄ E2 hvj hp2 hm2 F4 N4
          obtain ⟨hj, tj, rfl⟩ := hvj
          have hn4 := F4.ns
          have X4 := X.keeps F4.keep
          have T4 := T.keeps F4.keep
          have g24 := N4.get (show (L + 1 + 1, _) ∈ _ from by k_mem)
          have g74 := N4.get (show (L + 1 + 1 + 1 + 1 + 1 + 1 + 1, _) ∈ _ from by k_mem)
          have g84 := N4.get (show (L + 1 + 1 + 1 + 1 + 1 + 1 + 1 + 1, _) ∈ _ from by k_mem)
          clear Fy Nw
          rcases j with _ | _ | _ | j
          · replace hm2 : m₄ ("k" : Str) = some (.int 0 tj) := hm2
            k_steps
            all_goals (try (with_reducible show Halt (wpAny _ _ _ _ _ _); refine Halt.mk ?_))
            exact ⟨_, _, rfl, fun _ _ e => e⟩
          · replace hm2 : m₄ ("k" : Str) = some (.int 1 tj) := hm2
            k_steps
            all_goals (try (with_reducible show Halt (wpAny _ _ _ _ _ _); refine Halt.mk ?_))
            exact ⟨_, _, rfl, fun _ _ e => e⟩
          · replace hm2 : m₄ ("k" : Str) = some (.int 2 tj) := hm2
            k_steps
            all_goals (try (with_reducible show Halt (wpAny _ _ _ _ _ _); refine Halt.mk ?_))
            exact ⟨_, _, rfl, fun _ _ e => e⟩
          · omega
        · intro D2 h9 tk9 ts2 vs2' e2 hD2 F9 N9 hlen9 hvs9 hP9 hkD9
          replace F9 : Fr h₀ L h9 _ := F9
          replace N9 : News h₀ L h9 _ := N9
          have It := ints_comp (pz := fun _ => true) (g := fun i : Nat => if i = 0 then z1 * (cc b (cnt n1) - cc b (cand (cand (cnt n1) (cnt n2)) (cnt n3))) else if i = 1 then z2 * (cc b (cnt n2) - cc b (cand (cand (cnt n1) (cnt n2)) (cnt n3))) else z3 * (cc b (cnt n3) - cc b (cand (cand (cnt n1) (cnt n2)) (cnt n3)))) hlen9 hvs9 hP9
          clear Fy Nw
          k_steps
          all_goals (try (with_reducible show Halt (wpAny _ _ _ _ _ _); refine Halt.mk ?_))
          refine ⟨sumKeep (by walk_at "m_hand") ⟨_, N9.get (.head _), rfl, _, rfl⟩ It (fun h6 tk6 t6 k6 => ?_)⟩
          intro ht6
          replace ht6 : 12 ≤ tk6 := ht6
          rw [show (((List.range 3).filter fun _ => true).map (fun i : Nat => if i = 0 then z1 * (cc b (cnt n1) - cc b (cand (cand (cnt n1) (cnt n2)) (cnt n3))) else if i = 1 then z2 * (cc b (cnt n2) - cc b (cand (cand (cnt n1) (cnt n2)) (cnt n3))) else z3 * (cc b (cnt n3) - cc b (cand (cand (cnt n1) (cnt n2)) (cnt n3))))).sum = z1 * (cc b (cnt n1) - cc b (cand (cand (cnt n1) (cnt n2)) (cnt n3))) + z2 * (cc b (cnt n2) - cc b (cand (cand (cnt n1) (cnt n2)) (cnt n3))) + z3 * (cc b (cnt n3) - cc b (cand (cand (cnt n1) (cnt n2)) (cnt n3))) from by
            show List.sum [z1 * (cc b (cnt n1) - cc b (cand (cand (cnt n1) (cnt n2)) (cnt n3))), z2 * (cc b (cnt n2) - cc b (cand (cand (cnt n1) (cnt n2)) (cnt n3))), z3 * (cc b (cnt n3) - cc b (cand (cand (cnt n1) (cnt n2)) (cnt n3)))] = _
            simp only [List.sum_cons, List.sum_nil]
            omega]
          have F6 := fr_grow F9 k6
          have N6 := news_grow N9 k6
          clear F9 N9
          k_steps
          all_goals (try (with_reducible show Halt (wpAny _ _ _ _ _ _); refine Halt.mk ?_))
          (try dsimp only)
          refine PySem.Flt.div_ii_fits (by walk_at "m_hand") (abs_small a0 (by omega)) (fun e => absurd e (by omega)) (fun _ _ => ?_)
          k_steps
          all_goals (try (with_reducible show Halt (wpAny _ _ _ _ _ _); refine Halt.mk ?_))
          refine ⟨wpAny_tk 12 (by repeat (first | assumption | refine Nat.le_succ_of_le ?_)) ?_⟩
          refine Call_ ?_
          k_steps
          all_goals (try (with_reducible show Halt (wpAny _ _ _ _ _ _); refine Halt.mk ?_))
          (with_reducible rename Fr _ _ _ _ => Fa)
          (with_reducible rename News _ _ _ _ => Na)
          refine kso_min Fa Na ⟨_, Na.get (show (Z, _) ∈ _ from by k_mem), rfl, ⟨eZ, rfl⟩⟩ (.cons _ _ (.cons _ _ (.cons _ _ (.nil)))) (Nat.zero_lt_succ _) (by walk_at "m_hand") ?_
          intro h7 M7 t7 tk7 F7 N7 hM hlow
          intro ht7
          replace ht7 : 12 ≤ tk7 := ht7
          have eM := least3 hM hlow
          subst eM
          clear Fa Na hM hlow
          k_steps
          all_goals (try (with_reducible show Halt (wpAny _ _ _ _ _ _); refine Halt.mk ?_))
          (try dsimp only)
          refine PySem.Flt.div_ii_fits (by walk_at "m_hand") (abs_small a0 (by omega)) (fun e => absurd e (by omega)) (fun _ _ => ?_)
          k_steps
          all_goals (try (with_reducible show Halt (wpAny _ _ _ _ _ _); refine Halt.mk ?_))
          (try dsimp only)
          refine PySem.Flt.div_ii_fits (by walk_at "m_hand") (abs_small a0 (by omega)) (fun e => absurd e (by omega)) (fun _ _ => ?_)
          k_steps
          all_goals (try (with_reducible show Halt (wpAny _ _ _ _ _ _); refine Halt.mk ?_))
          refine ⟨wpAny_tk 12 (by repeat (first | assumption | refine Nat.le_succ_of_le ?_)) ?_⟩
          refine Call_ ?_
          k_steps
          all_goals (try (with_reducible show Halt (wpAny _ _ _ _ _ _); refine Halt.mk ?_))
          (with_reducible rename Fr _ _ _ _ => Fa)
          (with_reducible rename News _ _ _ _ => Na)
          refine ⟨sumKeep (by walk_at "m_hand") (vs := [.int (cc b (cnt n1)) x1, .int (cc b (cnt n2)) x2, .int (cc b (cnt n3)) x3]) ⟨_, Na.get (show (Z, _) ∈ _ from by k_mem), rfl, eZ, rfl⟩ (.cons _ _ (.cons _ _ (.cons _ _ (.nil)))) (fun h4 tk4 t4 k4 => ?_)⟩
          intro ht4
          replace ht4 : 12 ≤ tk4 := ht4
          rw [show List.sum [cc b (cnt n1), cc b (cnt n2), cc b (cnt n3)] = cc b (cnt n1) + cc b (cnt n2) + cc b (cnt n3) from by simp only [List.sum_cons, List.sum_nil]; omega]
          have Fb := fr_grow Fa k4
          have Nb := news_grow Na k4
          clear Fa Na
          k_steps
          all_goals (try (with_reducible show Halt (wpAny _ _ _ _ _ _); refine Halt.mk ?_))
          (try dsimp only)
          refine PySem.Flt.div_ii_fits (by walk_at "m_hand") (abs_small (by omega) (by omega)) (fun e => absurd e (by omega)) (fun _ _ => ?_)
          k_steps
          all_goals (try (with_reducible show Halt (wpAny _ _ _ _ _ _); refine Halt.mk ?_))
          (with_reducible rename Fr _ _ _ _ => Fx)
          (with_reducible rename News _ _ _ _ => Nx2)
          refine ⟨rfl, fun ht => ?_⟩
          have N9 : News h₀ L _ [(_, PySem.W.listOf (List.toArray [.float _ _, .float _ _, .float _ _, .float _ _]) 0), (R, _), (r1, _), (r2, _), (r3, _), (H, _), (L + 1, _), (L + 1 + 1, _), (L + 1 + 1 + 1, _), (L + 1 + 1 + 1 + 1, _), (L + 1 + 1 + 1 + 1 + 1, _), (L + 1 + 1 + 1 + 1 + 1 + 1, _), (L + 1 + 1 + 1 + 1 + 1 + 1 + 1, _), (L + 1 + 1 + 1 + 1 + 1 + 1 + 1 + 1, _)] := news_pick Nx2 ⟨by k_mem, by k_mem, by k_mem, by k_mem, by k_mem, by k_mem, by k_mem, by k_mem, by k_mem, by k_mem, by k_mem, by k_mem, by k_mem, by k_mem, trivial⟩
          exact @next _ _ _ _ 0 _ _ _ _ (fr_as2 (x := ("count" : Str)) (y := ("dues" : Str)) Fx rfl rfl) N9 (.flt (tok_ne (Nat.le_trans (by decide) (show 12 ≤ _ from by repeat (first | assumption | refine Nat.le_succ_of_le ?_)))) (fun u => by unfold jv3; rw [if_neg hq, if_neg (by simp only [not_or]; exact hm)]; rfl) (quo_nan _ _)) (.flt (tok_ne (Nat.le_trans (by decide) (show 12 ≤ _ from by repeat (first | assumption | refine Nat.le_succ_of_le ?_)))) (fun u => by unfold ov3; rw [if_neg hq, if_neg (by simp only [not_or]; exact hm)]; rfl) (quo_nan _ _)) (.flt (tok_ne (Nat.le_trans (by decide) (show 12 ≤ _ from by repeat (first | assumption | refine Nat.le_succ_of_le ?_)))) (fun u => by unfold tv3; rw [if_neg hq, if_neg (by simp only [not_or]; exact hm)]; simp only [Int.add_assoc]; rfl) (quo_nan _ _)) ht

end

section
open PySem PySem.W PySem.Calls PyProof.Rows
set_option maxHeartbeats 4000000
local macro_rules | `(tactic| walk_at "callWith ref") => `(tactic| (k_here; (with_reducible show wpAny _ _ (callWith _ (Value.ref _) _ _ (backToKw _ _)) _ _ _); k_dflt (first | refine' callWith_KW ?k1 ?k2 ?k3 ?_; (case k1 => k_asm); (case k2 => k_is); (case k3 => exact rfl); k_whole | refine' callWith_KW0 ?k1 ?k2 ?k3 ?_; (case k1 => k_asm); (case k2 => k_is); (case k3 => exact rfl); k_whole)))
local macro_rules | `(tactic| walk_at "call ref cons nil") => `(tactic| (k_here; (with_reducible show wpAny _ _ (call (Value.ref _) _ _) _ _ _); refine Halt.out ?_))
local macro_rules | `(tactic| walk_at "call builtin:all cons nil") => `(tactic| (k_here; (with_reducible show wpAny _ _ (call (Value.builtin "all") [Value.ref _] _) _ _ _); refine Halt.out ?_))
local macro_rules | `(tactic| walk_at "call builtin:sum cons nil") => `(tactic| (k_here; (with_reducible show wpAny _ _ (call (Value.builtin "sum") [Value.ref _] _) _ _ _); refine Halt.out ?_))
local macro_rules | `(tactic| walk_at "eval GeneratorExp Call cons") => `(tactic| (k_here; (with_reducible show wpAny _ _ (eval (Expr.GeneratorExp _ _ _ _) _) _ _ _); refine Halt.out ?_))
local macro_rules | `(tactic| walk_at "binaryOp Div int int") => `(tactic| (k_here; (with_reducible show wpAny _ _ (binaryOp Operator.Div _ _) _ _ _); refine Halt.out ?_))
local macro_rules | `(tactic| walk_at "binaryOp Div float int") => `(tactic| (k_here; (with_reducible show wpAny _ _ (binaryOp Operator.Div _ _) _ _ _); refine Halt.out ?_))
local macro_rules | `(tactic| walk_at "binaryOp Mult float int") => `(tactic| (k_here; (with_reducible show wpAny _ _ (binaryOp Operator.Mult (Value.float _ _) _) _ _ _); refine Halt.out ?_))
local macro_rules | `(tactic| walk_at "call builtin:min cons nil") => `(tactic| (k_here; (with_reducible show wpAny _ _ (call (Value.builtin "min") [Value.ref _] _) _ _ _); refine Halt.out ?_))
local macro_rules | `(tactic| walk_at "call ref nil") => `(tactic| (k_here; (with_reducible show wpAny _ _ (call (Value.ref _) _ _) _ _ _); refine Halt.out ?_))
local macro_rules | `(tactic| walk_at "call builtin:max cons nil") => `(tactic| (k_here; (with_reducible show wpAny _ _ (call (Value.builtin "max") [Value.ref _] _) _ _ _); refine Halt.out ?_))
local macro_rules | `(tactic| walk_at "pyIter ref") => `(tactic| (k_here; (with_reducible show wpAny _ _ (pyIter (Value.ref _)) _ _ _); refine Halt.out ?_))
local macro_rules | `(tactic| walk_at "execs cons") => `(tactic| (k_here; (fail_if_success (fail_if_success k_gentoks)); refine gentoks12 (by repeat (first | assumption | refine Nat.le_succ_of_le ?_)) ?_; intro tk htk))
local macro_rules | `(tactic| walk_at "execs nil") => `(tactic| (k_here; (fail_if_success (fail_if_success k_gentoks)); refine gentoks12 (by repeat (first | assumption | refine Nat.le_succ_of_le ?_)) ?_; intro tk htk))
local macro_rules | `(tactic| walk_at "subscriptTail Name Slice ref ref") => `(tactic| (k_here; (with_reducible show wpAny _ _ (subscriptTail _ (PySem.Expr.Slice _ _ _ _) (Value.ref _) (Value.ref _)) _ _ _); refine Hold.out ?_))
theorem bounds44 : sliceBounds none (some 4) none 4 = (0, 4, 1) := by decide
theorem bounds43 : sliceBounds none (some 3) none 4 = (0, 3, 1) := by decide
theorem slp4 (y1 y2 y3 y4 : Value) : (slicePick (List.toArray [y1, y2, y3, y4]) none (some 4) none).toList = [y1, y2, y3, y4] := by
  rw [kmk_pick_nat (a := 0) (b := 4) _ bounds44]
  rfl
theorem slp3 (y1 y2 y3 y4 : Value) : (slicePick (List.toArray [y1, y2, y3, y4]) none (some 3) none).toList = [y1, y2, y3] := by
  rw [kmk_pick_nat (a := 0) (b := 3) _ bounds43]
  rfl
theorem seg_told2 {prog : Program} {w : World} {A : Around} {p : Program} {loose : List Str} {mg mb : Str → Option Value} {bm : Addr} {ob : Obj} {s : Shared} {h₀ : Heap} {L : Addr} {Q : Flow → Shared → Prop} {u : Str → Option Value} {tc : Tok} {R H r1 r2 : Addr} {vs1 vs2 : List Value} {n1 n2 : List Int} {eR eH f1 f2 : Nat} {b : Bool} {z1 z2 : Int} {w1 w2 : Tok} {o1 o2 o3 o4 o5 o6 o7 o8 : Obj} {v3 v4 v6 v7 v8 : Option Value} {Du : Addr} {eD : Nat} {y1 y2 y3 y4 : Value}
    (B0 : Bas w p loose mg mb bm ob h₀) (hG0 : AllBare s.gens) (nb : NoneBooked h₀) (hA : A.handled = none) (hd : A.depth + 90 < recursionLimit) (hu : A.units + 500 < cLine)
    (F : Fr h₀ L s.heap (fun y => if y = "dues" then some (.ref Du) else if y = "count" then some (.int 2 tc) else u y))
    (N : News h₀ L s.heap [(Du, PySem.W.listOf (List.toArray [y1, y2, y3, y4]) eD), (R, PySem.W.listOf (List.toArray [.ref r1, .ref r2]) eR), (r1, ({ cls := .type "tuple", data := .seq vs1.toArray f1 } : Obj)), (r2, ({ cls := .type "tuple", data := .seq vs2.toArray f2 } : Obj)), (H, PySem.W.listOf (List.toArray [.int z1 w1, .int z2 w2]) eH), (L + 1, o1), (L + 1 + 1, o2), (L + 1 + 1 + 1, o3), (L + 1 + 1 + 1 + 1, o4), (L + 1 + 1 + 1 + 1 + 1, o5), (L + 1 + 1 + 1 + 1 + 1 + 1, o6), (L + 1 + 1 + 1 + 1 + 1 + 1 + 1, o7), (L + 1 + 1 + 1 + 1 + 1 + 1 + 1 + 1, o8)])
    (d1 : o1.data = .cell (some (.bool b))) (d2 : o2.data = .cell (some (.ref H))) (d3 : o3.data = .cell v3) (d4 : o4.data = .cell v4) (d5 : o5.data = .cell (some (.ref R))) (d6 : o6.data = .cell v6) (d7 : o7.data = .cell v7) (d8 : o8.data = .cell v8)
    (I1 : IntsAre vs1 n1) (hz1 : n1.length ≤ 100) (I2 : IntsAre vs2 n2) (hz2 : n2.length ≤ 100)
    (Y1 : Same (jv2 b n1 n2) y1) (Y2 : Same (ov2 b n1 n2) y2) (Y3 : Same (tv2 b n1 n2 z1 z2) y3) (Y4 : Same (sv2 b n1 n2) y4)
    (hw1 : 1 ≤ z1 ∧ z1 ≤ 5) (hw2 : 1 ≤ z2 ∧ z2 ≤ 5) (ht : 12 ≤ s.toks)
    (next : ∀ (h₁ : Heap) (s' : Shared) (u' : Str → Option Value), Bas w p loose mg mb bm ob h₁ → Soft h₀ h₁ → s'.os = s.os → AllBare s'.gens → Fr h₁ L s'.heap u' → News h₁ L s'.heap [(R, PySem.W.listOf (List.toArray [.ref r1, .ref r2]) eR), (r1, ({ cls := .type "tuple", data := .seq vs1.toArray f1 } : Obj)), (r2, ({ cls := .type "tuple", data := .seq vs2.toArray f2 } : Obj)), (H, PySem.W.listOf (List.toArray [.int z1 w1, .int z2 w2]) eH), (L + 1, o1), (L + 1 + 1, o2), (L + 1 + 1 + 1, o3), (L + 1 + 1 + 1 + 1, o4), (L + 1 + 1 + 1 + 1 + 1, o5), (L + 1 + 1 + 1 + 1 + 1 + 1, o6), (L + 1 + 1 + 1 + 1 + 1 + 1 + 1, o7), (L + 1 + 1 + 1 + 1 + 1 + 1 + 1 + 1, o8)] →
      wpAny (model prog w) A (execs (lawIs w 17) (lawEnv w L)) Q noE s') :
    Hold (wpAny (model prog w) A (execs (lawIs w 13) (lawEnv w L)) Q noE s) := by
  refine ⟨?_⟩
  conv =>
    arg 3
    arg 1
    whnf
  conv =>
    arg 3
    arg 2
    whnf
  change wpAny _ _ (execs _ (envOfC (PySem.Str.ofString "law") _ L 387 (.ref 386))) _ _ _
  have X0 := B0.X
  have T0 := B0.T
  have S0 : Soft h₀ h₀ := .of_keep fun _ _ e => e
  refine one_stmtT 12 ht ?_
  k_steps
  all_goals (try (with_reducible show Halt (wpAny _ _ _ _ _ _); refine Halt.mk ?_))
  (with_reducible rename Fr _ _ _ _ => Fz)
  (with_reducible rename News _ _ _ _ => Nz)
  refine wpAny_tk 12 (by repeat (first | assumption | refine Nat.le_succ_of_le ?_)) (make_jac (X0.keeps Fz.keep) (T0.keeps Fz.keep) (by walk_at "m_hand") (by k_room) (by walk_at "m_units") ?_)
  intro x1 dx1 h1 tk1 nn1 tq1 t11 t21 t31 k1 hx1 hdx1 M1 hm1
  replace hm1 : 12 ≤ tk1 := hm1
  have F1 := fr_grow Fz k1
  have N1 := news_add Fz (news_add Fz (news_grow Nz k1) hdx1 M1.dat) hx1 M1.at_
  clear Fz Nz
  k_steps
  all_goals (try (with_reducible show Halt (wpAny _ _ _ _ _ _); refine Halt.mk ?_))
  (with_reducible rename Fr _ _ _ _ => Fz)
  (with_reducible rename News _ _ _ _ => Nz)
  have Ra1 := row_led Nz I1 (by k_mem)
  have Ra2 := row_led Nz I2 (by k_mem)
  have Ma := meas_led Nz (x := x1) (dx := dx1) (C := 270) (es := attr3 w b tq1 t11 t21 t31) (n := nn1) (by k_mem) (by k_mem)
  have La := list_led Nz (l := R) (by k_mem)
  have La2 := list_led Nz (l := H) (by k_mem)
  refine wpAny_tk 12 (by repeat (first | assumption | refine Nat.le_succ_of_le ?_)) ?_
  refine CodeT.use (P := Late (Late (fun v n => ∃ u, v = jv2 b n1 n2 u ∧ RecT v n))) ?call1 ?_
  case call1 => exact gives_told2 (B0.keep Fz.keep) hG0 (by walk_at "m_hand") (by k_room) (by walk_at "m_units") Ma (.j ..) La (ans_jac2 (d := 8) (u := 60) (B0.keep Fz.keep) (by k_room) (by walk_at "m_units") Ma Ra1 Ra2 hz1 hz2)
  clear Ma La La2 Ra1 Ra2
  intro v1 s1 hos1 hG1 sf1 tb1 hP1 ht1
  replace ht1 : 12 ≤ s1.toks := ht1
  have V1 : Told (jv2 b n1 n2) v1 := told_late (fun _ _ h => h) hP1 (by omega)
  clear hP1
  obtain ⟨hB1, sfB1, tB1, FB1, hN1, _⟩ := rebase B0.t Fz sf1 tb1
  have NB1 := hN1 _ Nz
  have B1 := B0.soft sfB1 tB1
  have X1 := B1.X
  have T1 := B1.T
  have S1 := S0.trans sfB1
  clear Fz Nz hN1 X0 T0
  have NC1 : News _ L _ [(Du, _), (R, _), (r1, _), (r2, _), (H, _), (L + 1, _), (L + 1 + 1, _), (L + 1 + 1 + 1, _), (L + 1 + 1 + 1 + 1, _), (L + 1 + 1 + 1 + 1 + 1, _), (L + 1 + 1 + 1 + 1 + 1 + 1, _), (L + 1 + 1 + 1 + 1 + 1 + 1 + 1, _), (L + 1 + 1 + 1 + 1 + 1 + 1 + 1 + 1, _)] := news_pick NB1 ⟨by k_mem, by k_mem, by k_mem, by k_mem, by k_mem, by k_mem, by k_mem, by k_mem, by k_mem, by k_mem, by k_mem, by k_mem, by k_mem, trivial⟩
  clear NB1
  k_steps
  all_goals (try (with_reducible show Halt (wpAny _ _ _ _ _ _); refine Halt.mk ?_))
  (with_reducible rename Fr _ _ _ _ => Fz)
  (with_reducible rename News _ _ _ _ => Nz)
  refine wpAny_tk 12 (by repeat (first | assumption | refine Nat.le_succ_of_le ?_)) (make_ov (X1.keeps Fz.keep) (T1.keeps Fz.keep) (by walk_at "m_hand") (by k_room) (by walk_at "m_units") ?_)
  intro x2 dx2 h2 tk2 nn2 tq2 t12 t22 t32 k2 hx2 hdx2 M2 hm2
  replace hm2 : 12 ≤ tk2 := hm2
  have F2 := fr_grow Fz k2
  have N2 := news_add Fz (news_add Fz (news_grow Nz k2) hdx2 M2.dat) hx2 M2.at_
  clear Fz Nz
  k_steps
  all_goals (try (with_reducible show Halt (wpAny _ _ _ _ _ _); refine Halt.mk ?_))
  (with_reducible rename Fr _ _ _ _ => Fz)
  (with_reducible rename News _ _ _ _ => Nz)
  have Ra1 := row_led Nz I1 (by k_mem)
  have Ra2 := row_led Nz I2 (by k_mem)
  have Ma := meas_led Nz (x := x2) (dx := dx2) (C := 368) (es := attr3 w b tq2 t12 t22 t32) (n := nn2) (by k_mem) (by k_mem)
  have La := list_led Nz (l := R) (by k_mem)
  have La2 := list_led Nz (l := H) (by k_mem)
  refine wpAny_tk 12 (by repeat (first | assumption | refine Nat.le_succ_of_le ?_)) ?_
  refine CodeT.use (P := Late (Late (fun v n => ∃ u, v = ov2 b n1 n2 u ∧ RecT v n))) ?call2 ?_
  case call2 => exact gives_told2 (B1.keep Fz.keep) hG1 (by walk_at "m_hand") (by k_room) (by walk_at "m_units") Ma (.o ..) La (ans_ov2 (d := 8) (u := 60) (B1.keep Fz.keep) (by k_room) (by walk_at "m_units") Ma Ra1 Ra2 hz1 hz2)
  clear Ma La La2 Ra1 Ra2
  intro v2 s2 hos2 hG2 sf2 tb2 hP2 ht2
  replace ht2 : 12 ≤ s2.toks := ht2
  have V2 : Told (ov2 b n1 n2) v2 := told_late (fun _ _ h => h) hP2 (by omega)
  clear hP2
  obtain ⟨hB2, sfB2, tB2, FB2, hN2, _⟩ := rebase B1.t Fz sf2 tb2
  have NB2 := hN2 _ Nz
  have B2 := B1.soft sfB2 tB2
  have X2 := B2.X
  have T2 := B2.T
  have S2 := S1.trans sfB2
  clear Fz Nz hN2 X1 T1
  have NC2 : News _ L _ [(Du, _), (R, _), (r1, _), (r2, _), (H, _), (L + 1, _), (L + 1 + 1, _), (L + 1 + 1 + 1, _), (L + 1 + 1 + 1 + 1, _), (L + 1 + 1 + 1 + 1 + 1, _), (L + 1 + 1 + 1 + 1 + 1 + 1, _), (L + 1 + 1 + 1 + 1 + 1 + 1 + 1, _), (L + 1 + 1 + 1 + 1 + 1 + 1 + 1 + 1, _)] := news_pick NB2 ⟨by k_mem, by k_mem, by k_mem, by k_mem, by k_mem, by k_mem, by k_mem, by k_mem, by k_mem, by k_mem, by k_mem, by k_mem, by k_mem, trivial⟩
  clear NB2
  k_steps
  all_goals (try (with_reducible show Halt (wpAny _ _ _ _ _ _); refine Halt.mk ?_))
  refine ⟨rfl, fun ht => ?_⟩
  refine one_stmtT 12 ht ?_
  k_steps
  all_goals (try (with_reducible show Halt (wpAny _ _ _ _ _ _); refine Halt.mk ?_))
  (with_reducible rename _ ∧ _ => lT)
  (with_reducible rename Fr _ _ _ _ => Fz)
  (with_reducible rename News _ _ _ _ => Nz)
  refine wpAny_tk 12 (by repeat (first | assumption | refine Nat.le_succ_of_le ?_)) (make_tv (X2.keeps Fz.keep) (T2.keeps Fz.keep) (by walk_at "m_hand") (by k_room) (by walk_at "m_units") ?_)
  intro x3 dx3 h3 tk3 nn3 tq3 t13 t23 t33 t43 t53 k3 hx3 hdx3 M3 hm3
  replace hm3 : 12 ≤ tk3 := hm3
  have F3 := fr_grow Fz k3
  have N3 := news_add Fz (news_add Fz (news_grow Nz k3) hdx3 M3.dat) hx3 M3.at_
  clear Fz Nz
  k_steps
  all_goals (try (with_reducible show Halt (wpAny _ _ _ _ _ _); refine Halt.mk ?_))
  (with_reducible rename Fr _ _ _ _ => Fz)
  (with_reducible rename News _ _ _ _ => Nz)
  have Ra1 := row_led Nz I1 (by k_mem)
  have Ra2 := row_led Nz I2 (by k_mem)
  have Ma := meas_led Nz (x := x3) (dx := dx3) (C := 336) (es := attr5 w b H tq3 t13 t23 t33 t43 t53) (n := nn3) (by k_mem) (by k_mem)
  have La := list_led Nz (l := R) (by k_mem)
  have La2 := list_led Nz (l := H) (by k_mem)
  refine wpAny_tk 12 (by repeat (first | assumption | refine Nat.le_succ_of_le ?_)) ?_
  refine CodeT.use (P := Late (Late (fun v n => ∃ u, v = tv2 b n1 n2 z1 z2 u ∧ RecT v n))) ?call3 ?_
  case call3 => exact gives_told2 (B2.keep Fz.keep) hG2 (by walk_at "m_hand") (by k_room) (by walk_at "m_units") Ma (.t ..) La (ans_tv2 (d := 8) (u := 60) (B2.keep Fz.keep) (by k_room) (by walk_at "m_units") Ma Ra1 Ra2 hz1 hz2 La2 hw1 hw2)
  clear Ma La La2 Ra1 Ra2
  intro v3 s3 hos3 hG3 sf3 tb3 hP3 ht3
  replace ht3 : 12 ≤ s3.toks := ht3
  have V3 : Told (tv2 b n1 n2 z1 z2) v3 := told_late (fun _ _ h => h) hP3 (by omega)
  clear hP3
  obtain ⟨hB3, sfB3, tB3, FB3, hN3, _⟩ := rebase B2.t Fz sf3 tb3
  have NB3 := hN3 _ Nz
  have B3 := B2.soft sfB3 tB3
  have X3 := B3.X
  have T3 := B3.T
  have S3 := S2.trans sfB3
  clear Fz Nz hN3 X2 T2
  have NC3 : News _ L _ [(_, PySem.W.listOf (List.toArray [v1, v2]) 0), (Du, _), (R, _), (r1, _), (r2, _), (H, _), (L + 1, _), (L + 1 + 1, _), (L + 1 + 1 + 1, _), (L + 1 + 1 + 1 + 1, _), (L + 1 + 1 + 1 + 1 + 1, _), (L + 1 + 1 + 1 + 1 + 1 + 1, _), (L + 1 + 1 + 1 + 1 + 1 + 1 + 1, _), (L + 1 + 1 + 1 + 1 + 1 + 1 + 1 + 1, _)] := news_pick NB3 ⟨by k_mem, by k_mem, by k_mem, by k_mem, by k_mem, by k_mem, by k_mem, by k_mem, by k_mem, by k_mem, by k_mem, by k_mem, by k_mem, by k_mem, trivial⟩
  clear NB3
  k_steps
  all_goals (try (with_reducible show Halt (wpAny _ _ _ _ _ _); refine Halt.mk ?_))
  refine ⟨rfl, fun ht => ?_⟩
  refine one_stmtT 12 ht ?_
  k_steps
  all_goals (try (with_reducible show Halt (wpAny _ _ _ _ _ _); refine Halt.mk ?_))
  (with_reducible rename Fr _ _ _ _ => Fz)
  (with_reducible rename News _ _ _ _ => Nz)
  refine wpAny_tk 12 (by repeat (first | assumption | refine Nat.le_succ_of_le ?_)) (make_sor (X3.keeps Fz.keep) (T3.keeps Fz.keep) (by walk_at "m_hand") (by k_room) (by walk_at "m_units") ?_)
  intro x4 dx4 h4 tk4 nn4 tq4 t14 t24 t34 k4 hx4 hdx4 M4 hm4
  replace hm4 : 12 ≤ tk4 := hm4
  have F4 := fr_grow Fz k4
  have N4 := news_add Fz (news_add Fz (news_grow Nz k4) hdx4 M4.dat) hx4 M4.at_
  clear Fz Nz
  k_steps
  all_goals (try (with_reducible show Halt (wpAny _ _ _ _ _ _); refine Halt.mk ?_))
  (with_reducible rename Fr _ _ _ _ => Fz)
  (with_reducible rename News _ _ _ _ => Nz)
  have Ra1 := row_led Nz I1 (by k_mem)
  have Ra2 := row_led Nz I2 (by k_mem)
  have Ma := meas_led Nz (x := x4) (dx := dx4) (C := 304) (es := attr3 w b tq4 t14 t24 t34) (n := nn4) (by k_mem) (by k_mem)
  have La := list_led Nz (l := R) (by k_mem)
  have La2 := list_led Nz (l := H) (by k_mem)
  refine wpAny_tk 12 (by repeat (first | assumption | refine Nat.le_succ_of_le ?_)) ?_
  refine CodeT.use (P := Late (Late (fun v n => ∃ u, v = sv2 b n1 n2 u ∧ RecT v n))) ?call4 ?_
  case call4 => exact gives_told2 (B3.keep Fz.keep) hG3 (by walk_at "m_hand") (by k_room) (by walk_at "m_units") Ma (.s ..) La (ans_sor2 (d := 8) (u := 60) (B3.keep Fz.keep) (by k_room) (by walk_at "m_units") Ma Ra1 Ra2 hz1 hz2)
  clear Ma La La2 Ra1 Ra2
  intro v4 s4 hos4 hG4 sf4 tb4 hP4 ht4
  replace ht4 : 12 ≤ s4.toks := ht4
  have V4 : Told (sv2 b n1 n2) v4 := told_late (fun _ _ h => h) hP4 (by omega)
  clear hP4
  obtain ⟨hB4, sfB4, tB4, FB4, hN4, _⟩ := rebase B3.t Fz sf4 tb4
  have NB4 := hN4 _ Nz
  have B4 := B3.soft sfB4 tB4
  have X4 := B4.X
  have T4 := B4.T
  have S4 := S3.trans sfB4
  clear Fz Nz hN4 X3 T3
  have NC4 : News _ L _ [(_, PySem.W.listOf (Array.push (List.toArray [v1, v2]) v3) (0 + 1)), (Du, _), (R, _), (r1, _), (r2, _), (H, _), (L + 1, _), (L + 1 + 1, _), (L + 1 + 1 + 1, _), (L + 1 + 1 + 1 + 1, _), (L + 1 + 1 + 1 + 1 + 1, _), (L + 1 + 1 + 1 + 1 + 1 + 1, _), (L + 1 + 1 + 1 + 1 + 1 + 1 + 1, _), (L + 1 + 1 + 1 + 1 + 1 + 1 + 1 + 1, _)] := news_pick NB4 ⟨by k_mem, by k_mem, by k_mem, by k_mem, by k_mem, by k_mem, by k_mem, by k_mem, by k_mem, by k_mem, by k_mem, by k_mem, by k_mem, by k_mem, trivial⟩
  clear NB4
  k_steps
  all_goals (try (with_reducible show Halt (wpAny _ _ _ _ _ _); refine Halt.mk ?_))
  refine ⟨rfl, fun ht => ?_⟩
  (with_reducible rename News _ _ _ _ => Nn)
  have Nm : News _ L _ [(_, PySem.W.listOf (List.toArray [v1, v2, v3, v4]) (0 + 1 + 1)), (Du, _), (R, _), (r1, _), (r2, _), (H, _), (L + 1, _), (L + 1 + 1, _), (L + 1 + 1 + 1, _), (L + 1 + 1 + 1 + 1, _), (L + 1 + 1 + 1 + 1 + 1, _), (L + 1 + 1 + 1 + 1 + 1 + 1, _), (L + 1 + 1 + 1 + 1 + 1 + 1 + 1, _), (L + 1 + 1 + 1 + 1 + 1 + 1 + 1 + 1, _)] := news_pick Nn ⟨by k_mem, by k_mem, by k_mem, by k_mem, by k_mem, by k_mem, by k_mem, by k_mem, by k_mem, by k_mem, by k_mem, by k_mem, by k_mem, by k_mem, trivial⟩
  clear Nn
  refine one_stmtT 12 ht ?_
  k_steps
  all_goals (try (with_reducible show Halt (wpAny _ _ _ _ _ _); refine Halt.mk ?_))
  (with_reducible rename Fr _ _ _ _ => Fx)
  (with_reducible rename News _ _ _ _ => Nx)
  refine ⟨?_⟩
  (refine' kmk_slice_lit (zs := [y1, y2, y3, y4]) ?slF ?slN ?sll ?slp ?slq ?sle ?_ ?sls ?slt ?slz; (case slF => exact Fx); (case slN => exact Nx); (case sll => exact list_led Nx (by k_mem)); (case slp => exact IsPart.none); (case slq => exact IsPart.int _ _); (case sle => exact slp4 ..); (case sls => with_unfolding_all rfl); (case slt => intro _; with_unfolding_all rfl); (case slz => exact Nat.le_of_ble_eq_true rfl))
  intro D' h' F' N' l1
  clear Fx Nx l1
  (with_reducible rename Fr _ _ _ _ => Fx)
  (with_reducible rename News _ _ _ _ => Nx)
  have nbx := Mine.NoneBooked.soft nb (S4.then_keep Fx.keep)
  refine q_told (vs := [v1, v2, v3, v4]) (ws := [y1, y2, y3, y4]) ⟨_, Nx.get (show (_, PySem.W.listOf (List.toArray [v1, v2, v3, v4]) _) ∈ _ from by k_mem), rfl, _, rfl⟩ ⟨_, Nx.get (.head _), rfl, _, rfl⟩ (by walk_at "m_units") rfl ?_ ?_
  · intro j v y hv hy
    rcases j with _ | _ | _ | _ | j
    · cases hv; cases hy; exact Y1.eqat V1 nbx
    · cases hv; cases hy; exact Y2.eqat V2 nbx
    · cases hv; cases hy; exact Y3.eqat V3 nbx
    · cases hv; cases hy; exact Y4.eqat V4 nbx
    · cases hv
  k_steps
  all_goals (try (with_reducible show Halt (wpAny _ _ _ _ _ _); refine Halt.mk ?_))
  (with_reducible rename Fr _ _ _ _ => Fe)
  (with_reducible rename News _ _ _ _ => Ne)
  refine ⟨rfl, fun ht => ?_⟩
  exact @next _ _ _ B4 S4 (hos4.trans (hos3.trans (hos2.trans hos1))) hG4 Fe (news_pick Ne ⟨by k_mem, by k_mem, by k_mem, by k_mem, by k_mem, by k_mem, by k_mem, by k_mem, by k_mem, by k_mem, by k_mem, by k_mem, trivial⟩)
theorem seg_told3 {prog : Program} {w : World} {A : Around} {p : Program} {loose : List Str} {mg mb : Str → Option Value} {bm : Addr} {ob : Obj} {s : Shared} {h₀ : Heap} {L : Addr} {Q : Flow → Shared → Prop} {u : Str → Option Value} {tc : Tok} {R H r1 r2 r3 : Addr} {vs1 vs2 vs3 : List Value} {n1 n2 n3 : List Int} {eR eH f1 f2 f3 : Nat} {b : Bool} {z1 z2 z3 : Int} {w1 w2 w3 : Tok} {o1 o2 o3 o4 o5 o6 o7 o8 : Obj} {v3 v4 v6 v7 v8 : Option Value} {Du : Addr} {eD : Nat} {y1 y2 y3 y4 : Value}
    (B0 : Bas w p loose mg mb bm ob h₀) (hG0 : AllBare s.gens) (nb : NoneBooked h₀) (hA : A.handled = none) (hd : A.depth + 90 < recursionLimit) (hu : A.units + 500 < cLine)
    (F : Fr h₀ L s.heap (fun y => if y = "dues" then some (.ref Du) else if y = "count" then some (.int 3 tc) else u y))
    (N : News h₀ L s.heap [(Du, PySem.W.listOf (List.toArray [y1, y2, y3, y4]) eD), (R, PySem.W.listOf (List.toArray [.ref r1, .ref r2, .ref r3]) eR), (r1, ({ cls := .type "tuple", data := .seq vs1.toArray f1 } : Obj)), (r2, ({ cls := .type "tuple", data := .seq vs2.toArray f2 } : Obj)), (r3, ({ cls := .type "tuple", data := .seq vs3.toArray f3 } : Obj)), (H, PySem.W.listOf (List.toArray [.int z1 w1, .int z2 w2, .int z3 w3]) eH), (L + 1, o1), (L + 1 + 1, o2), (L + 1 + 1 + 1, o3), (L + 1 + 1 + 1 + 1, o4), (L + 1 + 1 + 1 + 1 + 1, o5), (L + 1 + 1 + 1 + 1 + 1 + 1, o6), (L + 1 + 1 + 1 + 1 + 1 + 1 + 1, o7), (L + 1 + 1 + 1 + 1 + 1 + 1 + 1 + 1, o8)])
    (d1 : o1.data = .cell (some (.bool b))) (d2 : o2.data = .cell (some (.ref H))) (d3 : o3.data = .cell v3) (d4 : o4.data = .cell v4) (d5 : o5.data = .cell (some (.ref R))) (d6 : o6.data = .cell v6) (d7 : o7.data = .cell v7) (d8 : o8.data = .cell v8)
    (I1 : IntsAre vs1 n1) (hz1 : n1.length ≤ 100) (I2 : IntsAre vs2 n2) (hz2 : n2.length ≤ 100) (I3 : IntsAre vs3 n3) (hz3 : n3.length ≤ 100)
    (Y1 : Same (jv3 b n1 n2 n3) y1) (Y2 : Same (ov3 b n1 n2 n3) y2) (Y3 : Same (tv3 b n1 n2 n3 z1 z2 z3) y3) 
    (hw1 : 1 ≤ z1 ∧ z1 ≤ 5) (hw2 : 1 ≤ z2 ∧ z2 ≤ 5) (hw3 : 1 ≤ z3 ∧ z3 ≤ 5) (ht : 12 ≤ s.toks)
    (next : ∀ (h₁ : Heap) (s' : Shared) (u' : Str → Option Value), Bas w p loose mg mb bm ob h₁ → Soft h₀ h₁ → s'.os = s.os → AllBare s'.gens → Fr h₁ L s'.heap u' → News h₁ L s'.heap [(R, PySem.W.listOf (List.toArray [.ref r1, .ref r2, .ref r3]) eR), (r1, ({ cls := .type "tuple", data := .seq vs1.toArray f1 } : Obj)), (r2, ({ cls := .type "tuple", data := .seq vs2.toArray f2 } : Obj)), (r3, ({ cls := .type "tuple", data := .seq vs3.toArray f3 } : Obj)), (H, PySem.W.listOf (List.toArray [.int z1 w1, .int z2 w2, .int z3 w3]) eH), (L + 1, o1), (L + 1 + 1, o2), (L + 1 + 1 + 1, o3), (L + 1 + 1 + 1 + 1, o4), (L + 1 + 1 + 1 + 1 + 1, o5), (L + 1 + 1 + 1 + 1 + 1 + 1, o6), (L + 1 + 1 + 1 + 1 + 1 + 1 + 1, o7), (L + 1 + 1 + 1 + 1 + 1 + 1 + 1 + 1, o8)] →
      wpAny (model prog w) A (execs (lawIs w 17) (lawEnv w L)) Q noE s') :
    Hold (wpAny (model prog w) A (execs (lawIs w 13) (lawEnv w L)) Q noE s) := by
  refine ⟨?_⟩
  conv =>
    arg 3
    arg 1
    whnf
  conv =>
    arg 3
    arg 2
    whnf
  change wpAny _ _ (execs _ (envOfC (PySem.Str.ofString "law") _ L 387 (.ref 386))) _ _ _
  have X0 := B0.X
  have T0 := B0.T
  have S0 : Soft h₀ h₀ := .of_keep fun _ _ e => e
  refine one_stmtT 12 ht ?_
  k_steps
  all_goals (try (with_reducible show Halt (wpAny _ _ _ _ _ _); refine Halt.mk ?_))
  (with_reducible rename Fr _ _ _ _ => Fz)
  (with_reducible rename News _ _ _ _ => Nz)
  refine wpAny_tk 12 (by repeat (first | assumption | refine Nat.le_succ_of_le ?_)) (make_jac (X0.keeps Fz.keep) (T0.keeps Fz.keep) (by walk_at "m_hand") (by k_room) (by walk_at "m_units") ?_)
  intro x1 dx1 h1 tk1 nn1 tq1 t11 t21 t31 k1 hx1 hdx1 M1 hm1
  replace hm1 : 12 ≤ tk1 := hm1
  have F1 := fr_grow Fz k1
  have N1 := news_add Fz (news_add Fz (news_grow Nz k1) hdx1 M1.dat) hx1 M1.at_
  clear Fz Nz
  k_steps
  all_goals (try (with_reducible show Halt (wpAny _ _ _ _ _ _); refine Halt.mk ?_))
  (with_reducible rename Fr _ _ _ _ => Fz)
  (with_reducible rename News _ _ _ _ => Nz)
  have Ra1 := row_led Nz I1 (by k_mem)
  have Ra2 := row_led Nz I2 (by k_mem)
  have Ra3 := row_led Nz I3 (by k_mem)
  have Ma := meas_led Nz (x := x1) (dx := dx1) (C := 270) (es := attr3 w b tq1 t11 t21 t31) (n := nn1) (by k_mem) (by k_mem)
  have La := list_led Nz (l := R) (by k_mem)
  have La2 := list_led Nz (l := H) (by k_mem)
  refine wpAny_tk 12 (by repeat (first | assumption | refine Nat.le_succ_of_le ?_)) ?_
  refine CodeT.use (P := Late (Late (fun v n => ∃ u, v = jv3 b n1 n2 n3 u ∧ RecT v n))) ?call1 ?_
  case call1 => exact gives_told3 (B0.keep Fz.keep) hG0 (by walk_at "m_hand") (by k_room) (by walk_at "m_units") Ma (.j ..) La (ans_jac3 (d := 8) (u := 60) (B0.keep Fz.keep) (by k_room) (by walk_at "m_units") Ma Ra1 Ra2 Ra3 hz1 hz2 hz3)
  clear Ma La La2 Ra1 Ra2 Ra3
  intro v1 s1 hos1 hG1 sf1 tb1 hP1 ht1
  replace ht1 : 12 ≤ s1.toks := ht1
  have V1 : Told (jv3 b n1 n2 n3) v1 := told_late (fun _ _ h => h) hP1 (by omega)
  clear hP1
  obtain ⟨hB1, sfB1, tB1, FB1, hN1, _⟩ := rebase B0.t Fz sf1 tb1
  have NB1 := hN1 _ Nz
  have B1 := B0.soft sfB1 tB1
  have X1 := B1.X
  have T1 := B1.T
  have S1 := S0.trans sfB1
  clear Fz Nz hN1 X0 T0
  have NC1 : News _ L _ [(Du, _), (R, _), (r1, _), (r2, _), (r3, _), (H, _), (L + 1, _), (L + 1 + 1, _), (L + 1 + 1 + 1, _), (L + 1 + 1 + 1 + 1, _), (L + 1 + 1 + 1 + 1 + 1, _), (L + 1 + 1 + 1 + 1 + 1 + 1, _), (L + 1 + 1 + 1 + 1 + 1 + 1 + 1, _), (L + 1 + 1 + 1 + 1 + 1 + 1 + 1 + 1, _)] := news_pick NB1 ⟨by k_mem, by k_mem, by k_mem, by k_mem, by k_mem, by k_mem, by k_mem, by k_mem, by k_mem, by k_mem, by k_mem, by k_mem, by k_mem, by k_mem, trivial⟩
  clear NB1
  k_steps
  all_goals (try (with_reducible show Halt (wpAny _ _ _ _ _ _); refine Halt.mk ?_))
  (with_reducible rename Fr _ _ _ _ => Fz)
  (with_reducible rename News _ _ _ _ => Nz)
  refine wpAny_tk 12 (by repeat (first | assumption | refine Nat.le_succ_of_le ?_)) (make_ov (X1.keeps Fz.keep) (T1.keeps Fz.keep) (by walk_at "m_hand") (by k_room) (by walk_at "m_units") ?_)
  intro x2 dx2 h2 tk2 nn2 tq2 t12 t22 t32 k2 hx2 hdx2 M2 hm2
  replace hm2 : 12 ≤ tk2 := hm2
  have F2 := fr_grow Fz k2
  have N2 := news_add Fz (news_add Fz (news_grow Nz k2) hdx2 M2.dat) hx2 M2.at_
  clear Fz Nz
  k_steps
  all_goals (try (with_reducible show Halt (wpAny _ _ _ _ _ _); refine Halt.mk ?_))
  (with_reducible rename Fr _ _ _ _ => Fz)
  (with_reducible rename News _ _ _ _ => Nz)
  have Ra1 := row_led Nz I1 (by k_mem)
  have Ra2 := row_led Nz I2 (by k_mem)
  have Ra3 := row_led Nz I3 (by k_mem)
  have Ma := meas_led Nz (x := x2) (dx := dx2) (C := 368) (es := attr3 w b tq2 t12 t22 t32) (n := nn2) (by k_mem) (by k_mem)
  have La := list_led Nz (l := R) (by k_mem)
  have La2 := list_led Nz (l := H) (by k_mem)
  refine wpAny_tk 12 (by repeat (first | assumption | refine Nat.le_succ_of_le ?_)) ?_
  refine CodeT.use (P := Late (Late (fun v n => ∃ u, v = ov3 b n1 n2 n3 u ∧ RecT v n))) ?call2 ?_
  case call2 => exact gives_told3 (B1.keep Fz.keep) hG1 (by walk_at "m_hand") (by k_room) (by walk_at "m_units") Ma (.o ..) La (ans_ov3 (d := 8) (u := 60) (B1.keep Fz.keep) (by k_room) (by walk_at "m_units") Ma Ra1 Ra2 Ra3 hz1 hz2 hz3)
  clear Ma La La2 Ra1 Ra2 Ra3
  intro v2 s2 hos2 hG2 sf2 tb2 hP2 ht2
  replace ht2 : 12 ≤ s2.toks := ht2
  have V2 : Told (ov3 b n1 n2 n3) v2 := told_late (fun _ _ h => h) hP2 (by omega)
  clear hP2
  obtain ⟨hB2, sfB2, tB2, FB2, hN2, _⟩ := rebase B1.t Fz sf2 tb2
  have NB2 := hN2 _ Nz
  have B2 := B1.soft sfB2 tB2
  have X2 := B2.X
  have T2 := B2.T
  have S2 := S1.trans sfB2
  clear Fz Nz hN2 X1 T1
  have NC2 : News _ L _ [(Du, _), (R, _), (r1, _), (r2, _), (r3, _), (H, _), (L + 1, _), (L + 1 + 1, _), (L + 1 + 1 + 1, _), (L + 1 + 1 + 1 + 1, _), (L + 1 + 1 + 1 + 1 + 1, _), (L + 1 + 1 + 1 + 1 + 1 + 1, _), (L + 1 + 1 + 1 + 1 + 1 + 1 + 1, _), (L + 1 + 1 + 1 + 1 + 1 + 1 + 1 + 1, _)] := news_pick NB2 ⟨by k_mem, by k_mem, by k_mem, by k_mem, by k_mem, by k_mem, by k_mem, by k_mem, by k_mem, by k_mem, by k_mem, by k_mem, by k_mem, by k_mem, trivial⟩
  clear NB2
  k_steps
  all_goals (try (with_reducible show Halt (wpAny _ _ _ _ _ _); refine Halt.mk ?_))
  refine ⟨rfl, fun ht => ?_⟩
  refine one_stmtT 12 ht ?_
  k_steps
  all_goals (try (with_reducible show Halt (wpAny _ _ _ _ _ _); refine Halt.mk ?_))
  (with_reducible rename _ ∧ _ => lT)
  (with_reducible rename Fr _ _ _ _ => Fz)
  (with_reducible rename News _ _ _ _ => Nz)
  refine wpAny_tk 12 (by repeat (first | assumption | refine Nat.le_succ_of_le ?_)) (make_tv (X2.keeps Fz.keep) (T2.keeps Fz.keep) (by walk_at "m_hand") (by k_room) (by walk_at "m_units") ?_)
  intro x3 dx3 h3 tk3 nn3 tq3 t13 t23 t33 t43 t53 k3 hx3 hdx3 M3 hm3
  replace hm3 : 12 ≤ tk3 := hm3
  have F3 := fr_grow Fz k3
  have N3 := news_add Fz (news_add Fz (news_grow Nz k3) hdx3 M3.dat) hx3 M3.at_
  clear Fz Nz
  k_steps
  all_goals (try (with_reducible show Halt (wpAny _ _ _ _ _ _); refine Halt.mk ?_))
  (with_reducible rename Fr _ _ _ _ => Fz)
  (with_reducible rename News _ _ _ _ => Nz)
  have Ra1 := row_led Nz I1 (by k_mem)
  have Ra2 := row_led Nz I2 (by k_mem)
  have Ra3 := row_led Nz I3 (by k_mem)
  have Ma := meas_led Nz (x := x3) (dx := dx3) (C := 336) (es := attr5 w b H tq3 t13 t23 t33 t43 t53) (n := nn3) (by k_mem) (by k_mem)
  have La := list_led Nz (l := R) (by k_mem)
  have La2 := list_led Nz (l := H) (by k_mem)
  refine wpAny_tk 12 (by repeat (first | assumption | refine Nat.le_succ_of_le ?_)) ?_
  refine CodeT.use (P := Late (Late (fun v n => ∃ u, v = tv3 b n1 n2 n3 z1 z2 z3 u ∧ RecT v n))) ?call3 ?_
  case call3 => exact gives_told3 (B2.keep Fz.keep) hG2 (by walk_at "m_hand") (by k_room) (by walk_at "m_units") Ma (.t ..) La (ans_tv3 (d := 8) (u := 60) (B2.keep Fz.keep) (by k_room) (by walk_at "m_units") Ma Ra1 Ra2 Ra3 hz1 hz2 hz3 La2 hw1 hw2 hw3)
  clear Ma La La2 Ra1 Ra2 Ra3
  intro v3 s3 hos3 hG3 sf3 tb3 hP3 ht3
  replace ht3 : 12 ≤ s3.toks := ht3
  have V3 : Told (tv3 b n1 n2 n3 z1 z2 z3) v3 := told_late (fun _ _ h => h) hP3 (by omega)
  clear hP3
  obtain ⟨hB3, sfB3, tB3, FB3, hN3, _⟩ := rebase B2.t Fz sf3 tb3
  have NB3 := hN3 _ Nz
  have B3 := B2.soft sfB3 tB3
  have X3 := B3.X
  have T3 := B3.T
  have S3 := S2.trans sfB3
  clear Fz Nz hN3 X2 T2
  have NC3 : News _ L _ [(_, PySem.W.listOf (List.toArray [v1, v2]) 0), (Du, _), (R, _), (r1, _), (r2, _), (r3, _), (H, _), (L + 1, _), (L + 1 + 1, _), (L + 1 + 1 + 1, _), (L + 1 + 1 + 1 + 1, _), (L + 1 + 1 + 1 + 1 + 1, _), (L + 1 + 1 + 1 + 1 + 1 + 1, _), (L + 1 + 1 + 1 + 1 + 1 + 1 + 1, _), (L + 1 + 1 + 1 + 1 + 1 + 1 + 1 + 1, _)] := news_pick NB3 ⟨by k_mem, by k_mem, by k_mem, by k_mem, by k_mem, by k_mem, by k_mem, by k_mem, by k_mem, by k_mem, by k_mem, by k_mem, by k_mem, by k_mem, by k_mem, trivial⟩
  clear NB3
  k_steps
  all_goals (try (with_reducible show Halt (wpAny _ _ _ _ _ _); refine Halt.mk ?_))
  refine ⟨rfl, fun ht => ?_⟩
  refine one_stmtT 12 ht ?_
  k_steps
  all_goals (try (with_reducible show Halt (wpAny _ _ _ _ _ _); refine Halt.mk ?_))
  refine ⟨rfl, fun ht => ?_⟩
  (with_reducible rename News _ _ _ _ => Nn)
  have Nm : News _ L _ [(_, PySem.W.listOf (List.toArray [v1, v2, v3]) (0 + 1)), (Du, _), (R, _), (r1, _), (r2, _), (r3, _), (H, _), (L + 1, _), (L + 1 + 1, _), (L + 1 + 1 + 1, _), (L + 1 + 1 + 1 + 1, _), (L + 1 + 1 + 1 + 1 + 1, _), (L + 1 + 1 + 1 + 1 + 1 + 1, _), (L + 1 + 1 + 1 + 1 + 1 + 1 + 1, _), (L + 1 + 1 + 1 + 1 + 1 + 1 + 1 + 1, _)] := news_pick Nn ⟨by k_mem, by k_mem, by k_mem, by k_mem, by k_mem, by k_mem, by k_mem, by k_mem, by k_mem, by k_mem, by k_mem, by k_mem, by k_mem, by k_mem, by k_mem, trivial⟩
  clear Nn
  refine one_stmtT 12 ht ?_
  k_steps
  all_goals (try (with_reducible show Halt (wpAny _ _ _ _ _ _); refine Halt.mk ?_))
  (with_reducible rename Fr _ _ _ _ => Fx)
  (with_reducible rename News _ _ _ _ => Nx)
  refine ⟨?_⟩
  (refine' kmk_slice_lit (zs := [y1, y2, y3]) ?slF ?slN ?sll ?slp ?slq ?sle ?_ ?sls ?slt ?slz; (case slF => exact Fx); (case slN => exact Nx); (case sll => exact list_led Nx (by k_mem)); (case slp => exact IsPart.none); (case slq => exact IsPart.int _ _); (case sle => exact slp3 ..); (case sls => with_unfolding_all rfl); (case slt => intro _; with_unfolding_all rfl); (case slz => exact Nat.le_of_ble_eq_true rfl))
  intro D' h' F' N' l1
  clear Fx Nx l1
  (with_reducible rename Fr _ _ _ _ => Fx)
  (with_reducible rename News _ _ _ _ => Nx)
  have nbx := Mine.NoneBooked.soft nb (S3.then_keep Fx.keep)
  refine q_told (vs := [v1, v2, v3]) (ws := [y1, y2, y3]) ⟨_, Nx.get (show (_, PySem.W.listOf (List.toArray [v1, v2, v3]) _) ∈ _ from by k_mem), rfl, _, rfl⟩ ⟨_, Nx.get (.head _), rfl, _, rfl⟩ (by walk_at "m_units") rfl ?_ ?_
  · intro j v y hv hy
    rcases j with _ | _ | _ | j
    · cases hv; cases hy; exact Y1.eqat V1 nbx
    · cases hv; cases hy; exact Y2.eqat V2 nbx
    · cases hv; cases hy; exact Y3.eqat V3 nbx
    · cases hv
  k_steps
  all_goals (try (with_reducible show Halt (wpAny _ _ _ _ _ _); refine Halt.mk ?_))
  (with_reducible rename Fr _ _ _ _ => Fe)
  (with_reducible rename News _ _ _ _ => Ne)
  refine ⟨rfl, fun ht => ?_⟩
  exact @next _ _ _ B3 S3 (hos3.trans (hos2.trans hos1)) hG3 Fe (news_pick Ne ⟨by k_mem, by k_mem, by k_mem, by k_mem, by k_mem, by k_mem, by k_mem, by k_mem, by k_mem, by k_mem, by k_mem, by k_mem, by k_mem, trivial⟩)

end

section
open PySem PySem.W PySem.Calls PyProof.Rows
set_option maxHeartbeats 4000000
local macro_rules | `(tactic| walk_at "callWith ref") => `(tactic| (k_here; (with_reducible show wpAny _ _ (callWith _ (Value.ref _) _ _ (backToKw _ _)) _ _ _); k_dflt (first | refine' callWith_KW ?k1 ?k2 ?k3 ?_; (case k1 => k_asm); (case k2 => k_is); (case k3 => exact rfl); k_whole | refine' callWith_KW0 ?k1 ?k2 ?k3 ?_; (case k1 => k_asm); (case k2 => k_is); (case k3 => exact rfl); k_whole)))
local macro_rules | `(tactic| walk_at "call ref cons nil") => `(tactic| (k_here; (with_reducible show wpAny _ _ (call (Value.ref _) _ _) _ _ _); refine Halt.out ?_))
local macro_rules | `(tactic| walk_at "call builtin:all cons nil") => `(tactic| (k_here; (with_reducible show wpAny _ _ (call (Value.builtin "all") [Value.ref _] _) _ _ _); refine Halt.out ?_))
local macro_rules | `(tactic| walk_at "call builtin:sum cons nil") => `(tactic| (k_here; (with_reducible show wpAny _ _ (call (Value.builtin "sum") [Value.ref _] _) _ _ _); refine Halt.out ?_))
local macro_rules | `(tactic| walk_at "eval GeneratorExp Call cons") => `(tactic| (k_here; (with_reducible show wpAny _ _ (eval (Expr.GeneratorExp _ _ _ _) _) _ _ _); refine Halt.out ?_))
local macro_rules | `(tactic| walk_at "binaryOp Div int int") => `(tactic| (k_here; (with_reducible show wpAny _ _ (binaryOp Operator.Div _ _) _ _ _); refine Halt.out ?_))
local macro_rules | `(tactic| walk_at "binaryOp Div float int") => `(tactic| (k_here; (with_reducible show wpAny _ _ (binaryOp Operator.Div _ _) _ _ _); refine Halt.out ?_))
local macro_rules | `(tactic| walk_at "binaryOp Mult float int") => `(tactic| (k_here; (with_reducible show wpAny _ _ (binaryOp Operator.Mult (Value.float _ _) _) _ _ _); refine Halt.out ?_))
local macro_rules | `(tactic| walk_at "call builtin:min cons nil") => `(tactic| (k_here; (with_reducible show wpAny _ _ (call (Value.builtin "min") [Value.ref _] _) _ _ _); refine Halt.out ?_))
local macro_rules | `(tactic| walk_at "call ref nil") => `(tactic| (k_here; (with_reducible show wpAny _ _ (call (Value.ref _) _ _) _ _ _); refine Halt.out ?_))
local macro_rules | `(tactic| walk_at "call builtin:max cons nil") => `(tactic| (k_here; (with_reducible show wpAny _ _ (call (Value.builtin "max") [Value.ref _] _) _ _ _); refine Halt.out ?_))
local macro_rules | `(tactic| walk_at "pyIter ref") => `(tactic| (k_here; (with_reducible show wpAny _ _ (pyIter (Value.ref _)) _ _ _); refine Halt.out ?_))
theorem seg_tail2 {prog : Program} {w : World} {A : Around} {p : Program} {loose : List Str} {mg mb : Str → Option Value} {bm : Addr} {ob : Obj} {s : Shared} {h₀ : Heap} {L : Addr} {Q : Flow → Shared → Prop} {u : Str → Option Value} {tc : Tok} {R H r1 r2 : Addr} {vs1 vs2 : List Value} {n1 n2 : List Int} {eR eH f1 f2 : Nat} {b : Bool} {z1 z2 : Int} {w1 w2 : Tok} {o1 o2 o3 o4 o5 o6 o7 o8 : Obj} {v3 v4 v6 v7 v8 : Option Value}
    (B0 : Bas w p loose mg mb bm ob h₀) (hG0 : AllBare s.gens) (hA : A.handled = none) (hd : A.depth + 90 < recursionLimit) (hu : A.units + 500 < cLine)
    (F : Fr h₀ L s.heap u)
    (N : News h₀ L s.heap [(R, PySem.W.listOf (List.toArray [.ref r1, .ref r2]) eR), (r1, ({ cls := .type "tuple", data := .seq vs1.toArray f1 } : Obj)), (r2, ({ cls := .type "tuple", data := .seq vs2.toArray f2 } : Obj)), (H, PySem.W.listOf (List.toArray [.int z1 w1, .int z2 w2]) eH), (L + 1, o1), (L + 1 + 1, o2), (L + 1 + 1 + 1, o3), (L + 1 + 1 + 1 + 1, o4), (L + 1 + 1 + 1 + 1 + 1, o5), (L + 1 + 1 + 1 + 1 + 1 + 1, o6), (L + 1 + 1 + 1 + 1 + 1 + 1 + 1, o7), (L + 1 + 1 + 1 + 1 + 1 + 1 + 1 + 1, o8)])
    (d1 : o1.data = .cell (some (.bool b))) (d2 : o2.data = .cell (some (.ref H))) (d3 : o3.data = .cell v3) (d4 : o4.data = .cell v4) (d5 : o5.data = .cell (some (.ref R))) (d6 : o6.data = .cell v6) (d7 : o7.data = .cell v7) (d8 : o8.data = .cell v8)
    (I1 : IntsAre vs1 n1) (hz1 : n1.length ≤ 100) (I2 : IntsAre vs2 n2) (hz2 : n2.length ≤ 100)
    (hlen : n1.length + n2.length ≤ 16)
    (hQ : ∀ s', s'.os = s.os → AllBare s'.gens → Soft h₀ s'.heap → Tabs s'.heap → Q (.ret (.bool true)) s') :
    Hold (wpAny (model prog w) A (execs (lawIs w 17) (lawEnv w L)) Q noE s) := by
  refine ⟨?_⟩
  conv =>
    arg 3
    arg 1
    whnf
  conv =>
    arg 3
    arg 2
    whnf
  change wpAny _ _ (execs _ (envOfC (PySem.Str.ofString "law") _ L 387 (.ref 386))) _ _ _
  have X0 := B0.X
  have T0 := B0.T
  have S0 : Soft h₀ h₀ := .of_keep fun _ _ e => e
  k_steps
  all_goals (try (with_reducible show Halt (wpAny _ _ _ _ _ _); refine Halt.mk ?_))
  (with_reducible rename Fr _ _ _ _ => Fz)
  (with_reducible rename News _ _ _ _ => Nz)
  refine make_jac (X0.keeps Fz.keep) (T0.keeps Fz.keep) (by walk_at "m_hand") (by k_room) (by walk_at "m_units") ?_
  intro x1 dx1 h1 tk1 nn1 tq t1 t2 t3 k1 hx1 hdx1 M1
  have F1 := fr_grow Fz k1
  have N1 := news_add Fz (news_add Fz (news_grow Nz k1) hdx1 M1.dat) hx1 M1.at_
  clear Fz Nz
  k_steps
  all_goals (try (with_reducible show Halt (wpAny _ _ _ _ _ _); refine Halt.mk ?_))
  (with_reducible rename Fr _ _ _ _ => Fz)
  (with_reducible rename News _ _ _ _ => Nz)
  have Ra1 := row_led Nz I1 (by k_mem)
  have Ra2 := row_led Nz I2 (by k_mem)
  have Ma := meas_led Nz (x := x1) (dx := dx1) (C := 270) (es := attr3 w b tq t1 t2 t3) (n := nn1) (by k_mem) (by k_mem)
  refine CodeS.use (P := fun v _ => ∃ u, v = dv2 b n1 n2 u) ?call1 ?_
  case call1 => exact gives_dist2 (B0.keep Fz.keep) hG0 (by walk_at "m_hand") (by k_room) (by walk_at "m_units") Ma Ra1 Ra2 hz1 hz2
  clear Ra1 Ra2 Ma
  rintro v1 s1 hos1 hG1 sf1 tb1 ⟨u1, rfl⟩
  obtain ⟨hB1, sfB1, tB1, FB1, hN1, _⟩ := rebase B0.t Fz sf1 tb1
  have NB1 := hN1 _ Nz
  have B1 := B0.soft sfB1 tB1
  have X1 := B1.X
  have T1 := B1.T
  have S1 := S0.trans sfB1
  clear Fz Nz hN1 X0 T0
  k_steps
  all_goals (try (with_reducible show Halt (wpAny _ _ _ _ _ _); refine Halt.mk ?_))
  (with_reducible rename Fr _ _ _ _ => Fz)
  (with_reducible rename News _ _ _ _ => Nz)
  have Ra1 := row_led Nz I1 (by k_mem)
  have Ra2 := row_led Nz I2 (by k_mem)
  have Ma := meas_led Nz (x := x1) (dx := dx1) (C := 270) (es := attr3 w b tq t1 t2 t3) (n := nn1) (by k_mem) (by k_mem)
  refine CodeT.use (P := Late (fun v n => ∃ u, v = jv2 b n2 n1 u ∧ RecT v n)) ?call2 ?_
  case call2 => exact gives_sim2 (B1.keep Fz.keep) hG1 (by walk_at "m_hand") (by k_room) (by walk_at "m_units") Ma (ans_jac2 (n1 := n2) (n2 := n1) (B1.keep Fz.keep) (by k_room) (by walk_at "m_units") Ma Ra2 Ra1 hz2 hz1)
  clear Ra1 Ra2 Ma
  rintro v2 s2 hos2 hG2 sf2 tb2 ⟨_, _, u2, rfl, _⟩
  obtain ⟨hB2, sfB2, tB2, FB2, hN2, _⟩ := rebase B1.t Fz sf2 tb2
  have NB2 := hN2 _ Nz
  have B2 := B1.soft sfB2 tB2
  have X2 := B2.X
  have T2 := B2.T
  have S2 := S1.trans sfB2
  clear Fz Nz hN2 X1 T1
  by_cases hq : n1 = n2
  · rw [show dv2 b n1 n2 u1 = .int 0 u1 from by unfold dv2; rw [if_pos hq], show jv2 b n2 n1 u2 = .int 1 u2 from by unfold jv2; rw [if_pos hq.symm]]
    k_steps
    all_goals (try (with_reducible show Halt (wpAny _ _ _ _ _ _); refine Halt.mk ?_))
    (with_reducible rename Fr _ _ _ _ => Fx)
    exact hQ _ (hos2.trans hos1) hG2 (S2.then_keep Fx.keep) (tB2.keep Fx.keep)
  · by_cases hm : n1 = [] ∨ n2 = []
    · rw [show dv2 b n1 n2 u1 = .int 1 u1 from by unfold dv2; rw [if_neg hq, if_pos hm], show jv2 b n2 n1 u2 = .int 0 u2 from by unfold jv2; rw [if_neg (fun e => hq e.symm), if_pos hm.symm]]
      k_steps
      all_goals (try (with_reducible show Halt (wpAny _ _ _ _ _ _); refine Halt.mk ?_))
      (with_reducible rename Fr _ _ _ _ => Fx)
      exact hQ _ (hos2.trans hos1) hG2 (S2.then_keep Fx.keep) (tB2.keep Fx.keep)
    · rw [show dv2 b n1 n2 u1 = .float (Float64.sub (Float64.ofInt 1) (quo (cc b (cand (cnt n1) (cnt n2))) (cc b (cor (cnt n1) (cnt n2))))) u1 from by unfold dv2; rw [if_neg hq, if_neg hm], show jv2 b n2 n1 u2 = .float (quo (cc b (cand (cnt n1) (cnt n2))) (cc b (cor (cnt n1) (cnt n2)))) u2 from by unfold jv2; rw [if_neg (fun e => hq e.symm), if_neg (fun e => hm e.symm), and2_comm, or2_comm]]
      k_steps
      all_goals (try (with_reducible show Halt (wpAny _ _ _ _ _ _); refine Halt.mk ?_))
      have p1 := size_pos (b := b) (n1 := n1) (fun e => hm (.inl e))
      have q1 := size_le (b := b) (n1 := n1)
      have q2 := size_le (b := b) (n1 := n2)
      have a0 := and2_nonneg (b := b) (n1 := n1) (n2 := n2)
      have a1 := and2_le1 (b := b) (n1 := n1) (n2 := n2)
      have a4 := or2_ge (b := b) (n1 := n1) (n2 := n2)
      have a5 := or2_le (b := b) (n1 := n1) (n2 := n2)
      rw [PySem.Flt.cmp_self, sub_nan a0 (by omega) (by omega) (by omega)]
      (with_reducible rename Fr _ _ _ _ => Fx)
      exact hQ _ (hos2.trans hos1) hG2 (S2.then_keep Fx.keep) (tB2.keep Fx.keep)
theorem seg_tail3 {prog : Program} {w : World} {A : Around} {p : Program} {loose : List Str} {mg mb : Str → Option Value} {bm : Addr} {ob : Obj} {s : Shared} {h₀ : Heap} {L : Addr} {Q : Flow → Shared → Prop} {u : Str → Option Value} {tc : Tok} {R H r1 r2 r3 : Addr} {vs1 vs2 vs3 : List Value} {n1 n2 n3 : List Int} {eR eH f1 f2 f3 : Nat} {b : Bool} {z1 z2 z3 : Int} {w1 w2 w3 : Tok} {o1 o2 o3 o4 o5 o6 o7 o8 : Obj} {v3 v4 v6 v7 v8 : Option Value}
    (B0 : Bas w p loose mg mb bm ob h₀) (hG0 : AllBare s.gens) (hA : A.handled = none) (hd : A.depth + 90 < recursionLimit) (hu : A.units + 500 < cLine)
    (F : Fr h₀ L s.heap u)
    (N : News h₀ L s.heap [(R, PySem.W.listOf (List.toArray [.ref r1, .ref r2, .ref r3]) eR), (r1, ({ cls := .type "tuple", data := .seq vs1.toArray f1 } : Obj)), (r2, ({ cls := .type "tuple", data := .seq vs2.toArray f2 } : Obj)), (r3, ({ cls := .type "tuple", data := .seq vs3.toArray f3 } : Obj)), (H, PySem.W.listOf (List.toArray [.int z1 w1, .int z2 w2, .int z3 w3]) eH), (L + 1, o1), (L + 1 + 1, o2), (L + 1 + 1 + 1, o3), (L + 1 + 1 + 1 + 1, o4), (L + 1 + 1 + 1 + 1 + 1, o5), (L + 1 + 1 + 1 + 1 + 1 + 1, o6), (L + 1 + 1 + 1 + 1 + 1 + 1 + 1, o7), (L + 1 + 1 + 1 + 1 + 1 + 1 + 1 + 1, o8)])
    (d1 : o1.data = .cell (some (.bool b))) (d2 : o2.data = .cell (some (.ref H))) (d3 : o3.data = .cell v3) (d4 : o4.data = .cell v4) (d5 : o5.data = .cell (some (.ref R))) (d6 : o6.data = .cell v6) (d7 : o7.data = .cell v7) (d8 : o8.data = .cell v8)
    (I1 : IntsAre vs1 n1) (hz1 : n1.length ≤ 100) (I2 : IntsAre vs2 n2) (hz2 : n2.length ≤ 100) (I3 : IntsAre vs3 n3) (hz3 : n3.length ≤ 100)
    (hlen : n1.length + n2.length ≤ 16)
    (hQ : ∀ s', s'.os = s.os → AllBare s'.gens → Soft h₀ s'.heap → Tabs s'.heap → Q (.ret (.bool true)) s') :
    Hold (wpAny (model prog w) A (execs (lawIs w 17) (lawEnv w L)) Q noE s) := by
  refine ⟨?_⟩
  conv =>
    arg 3
    arg 1
    whnf
  conv =>
    arg 3
    arg 2
    whnf
  change wpAny _ _ (execs _ (envOfC (PySem.Str.ofString "law") _ L 387 (.ref 386))) _ _ _
  have X0 := B0.X
  have T0 := B0.T
  have S0 : Soft h₀ h₀ := .of_keep fun _ _ e => e
  k_steps
  all_goals (try (with_reducible show Halt (wpAny _ _ _ _ _ _); refine Halt.mk ?_))
  (with_reducible rename Fr _ _ _ _ => Fz)
  (with_reducible rename News _ _ _ _ => Nz)
  refine make_jac (X0.keeps Fz.keep) (T0.keeps Fz.keep) (by walk_at "m_hand") (by k_room) (by walk_at "m_units") ?_
  intro x1 dx1 h1 tk1 nn1 tq t1 t2 t3 k1 hx1 hdx1 M1
  have F1 := fr_grow Fz k1
  have N1 := news_add Fz (news_add Fz (news_grow Nz k1) hdx1 M1.dat) hx1 M1.at_
  clear Fz Nz
  k_steps
  all_goals (try (with_reducible show Halt (wpAny _ _ _ _ _ _); refine Halt.mk ?_))
  (with_reducible rename Fr _ _ _ _ => Fz)
  (with_reducible rename News _ _ _ _ => Nz)
  have Ra1 := row_led Nz I1 (by k_mem)
  have Ra2 := row_led Nz I2 (by k_mem)
  have Ma := meas_led Nz (x := x1) (dx := dx1) (C := 270) (es := attr3 w b tq t1 t2 t3) (n := nn1) (by k_mem) (by k_mem)
  refine CodeS.use (P := fun v _ => ∃ u, v = dv2 b n1 n2 u) ?call1 ?_
  case call1 => exact gives_dist2 (B0.keep Fz.keep) hG0 (by walk_at "m_hand") (by k_room) (by walk_at "m_units") Ma Ra1 Ra2 hz1 hz2
  clear Ra1 Ra2 Ma
  rintro v1 s1 hos1 hG1 sf1 tb1 ⟨u1, rfl⟩
  obtain ⟨hB1, sfB1, tB1, FB1, hN1, _⟩ := rebase B0.t Fz sf1 tb1
  have NB1 := hN1 _ Nz
  have B1 := B0.soft sfB1 tB1
  have X1 := B1.X
  have T1 := B1.T
  have S1 := S0.trans sfB1
  clear Fz Nz hN1 X0 T0
  k_steps
  all_goals (try (with_reducible show Halt (wpAny _ _ _ _ _ _); refine Halt.mk ?_))
  (with_reducible rename Fr _ _ _ _ => Fz)
  (with_reducible rename News _ _ _ _ => Nz)
  have Ra1 := row_led Nz I1 (by k_mem)
  have Ra2 := row_led Nz I2 (by k_mem)
  have Ma := meas_led Nz (x := x1) (dx := dx1) (C := 270) (es := attr3 w b tq t1 t2 t3) (n := nn1) (by k_mem) (by k_mem)
  refine CodeT.use (P := Late (fun v n => ∃ u, v = jv2 b n2 n1 u ∧ RecT v n)) ?call2 ?_
  case call2 => exact gives_sim2 (B1.keep Fz.keep) hG1 (by walk_at "m_hand") (by k_room) (by walk_at "m_units") Ma (ans_jac2 (n1 := n2) (n2 := n1) (B1.keep Fz.keep) (by k_room) (by walk_at "m_units") Ma Ra2 Ra1 hz2 hz1)
  clear Ra1 Ra2 Ma
  rintro v2 s2 hos2 hG2 sf2 tb2 ⟨_, _, u2, rfl, _⟩
  obtain ⟨hB2, sfB2, tB2, FB2, hN2, _⟩ := rebase B1.t Fz sf2 tb2
  have NB2 := hN2 _ Nz
  have B2 := B1.soft sfB2 tB2
  have X2 := B2.X
  have T2 := B2.T
  have S2 := S1.trans sfB2
  clear Fz Nz hN2 X1 T1
  by_cases hq : n1 = n2
  · rw [show dv2 b n1 n2 u1 = .int 0 u1 from by unfold dv2; rw [if_pos hq], show jv2 b n2 n1 u2 = .int 1 u2 from by unfold jv2; rw [if_pos hq.symm]]
    k_steps
    all_goals (try (with_reducible show Halt (wpAny _ _ _ _ _ _); refine Halt.mk ?_))
    (with_reducible rename Fr _ _ _ _ => Fx)
    exact hQ _ (hos2.trans hos1) hG2 (S2.then_keep Fx.keep) (tB2.keep Fx.keep)
  · by_cases hm : n1 = [] ∨ n2 = []
    · rw [show dv2 b n1 n2 u1 = .int 1 u1 from by unfold dv2; rw [if_neg hq, if_pos hm], show jv2 b n2 n1 u2 = .int 0 u2 from by unfold jv2; rw [if_neg (fun e => hq e.symm), if_pos hm.symm]]
      k_steps
      all_goals (try (with_reducible show Halt (wpAny _ _ _ _ _ _); refine Halt.mk ?_))
      (with_reducible rename Fr _ _ _ _ => Fx)
      exact hQ _ (hos2.trans hos1) hG2 (S2.then_keep Fx.keep) (tB2.keep Fx.keep)
    · rw [show dv2 b n1 n2 u1 = .float (Float64.sub (Float64.ofInt 1) (quo (cc b (cand (cnt n1) (cnt n2))) (cc b (cor (cnt n1) (cnt n2))))) u1 from by unfold dv2; rw [if_neg hq, if_neg hm], show jv2 b n2 n1 u2 = .float (quo (cc b (cand (cnt n1) (cnt n2))) (cc b (cor (cnt n1) (cnt n2)))) u2 from by unfold jv2; rw [if_neg (fun e => hq e.symm), if_neg (fun e => hm e.symm), and2_comm, or2_comm]]
      k_steps
      all_goals (try (with_reducible show Halt (wpAny _ _ _ _ _ _); refine Halt.mk ?_))
      have p1 := size_pos (b := b) (n1 := n1) (fun e => hm (.inl e))
      have q1 := size_le (b := b) (n1 := n1)
      have q2 := size_le (b := b) (n1 := n2)
      have a0 := and2_nonneg (b := b) (n1 := n1) (n2 := n2)
      have a1 := and2_le1 (b := b) (n1 := n1) (n2 := n2)
      have a4 := or2_ge (b := b) (n1 := n1) (n2 := n2)
      have a5 := or2_le (b := b) (n1 := n1) (n2 := n2)
      rw [PySem.Flt.cmp_self, sub_nan a0 (by omega) (by omega) (by omega)]
      (with_reducible rename Fr _ _ _ _ => Fx)
      exact hQ _ (hos2.trans hos1) hG2 (S2.then_keep Fx.keep) (tB2.keep Fx.keep)

end

section
open PySem PySem.W PySem.Calls PyProof.Rows
set_option maxHeartbeats 4000000
theorem gives_law {prog : Program} {w : World} {A : Around} {p : Program} {loose : List Str} {mg mb : Str → Option Value} {bm : Addr} {ob : Obj} {s : Shared} {l : Addr} {vs : List Value} {ns : List Int}
    (B : Bas w p loose mg mb bm ob s.heap) (nb : NoneBooked s.heap) (hG : AllBare s.gens) (hA : A.handled = none) (hd : A.depth + 100 < recursionLimit) (hu : A.units + 600 < cLine)
    (HL : s.heap.IsList l vs.toArray) (HI : IntsAre vs ns) (hn : ns.length ≤ 63) :
    CodeS (model prog w) A s (.call (.ref 387) ⟨[.ref l], []⟩) (fun v _ => v = .bool true) := by
  intro Q E hQ
  have X := B.X
  have T := B.T
  walk_at "m_enterC"
  intro L' h₁ tk cells F N Y hab hDL
  k_cells Y
  obtain ⟨u, F⟩ : ∃ u : Str → Option Value, Fr s.heap L' h₁ (fun y => if y = "script" then some (.ref l) else u y) := ⟨_, fr_as F rfl⟩
  obtain ⟨o1, o2, o3, o4, o5, o6, o7, o8, v1, v2, v3, v4, v5, v6, v7, v8, N, d1, d2, d3, d4, d5, d6, d7, d8⟩ : ∃ (o1 o2 o3 o4 o5 o6 o7 o8 : Obj) (v1 v2 v3 v4 v5 v6 v7 v8 : Option Value), News s.heap L' h₁ [(L' + 1, o1), (L' + 1 + 1, o2), (L' + 1 + 1 + 1, o3), (L' + 1 + 1 + 1 + 1, o4), (L' + 1 + 1 + 1 + 1 + 1, o5), (L' + 1 + 1 + 1 + 1 + 1 + 1, o6), (L' + 1 + 1 + 1 + 1 + 1 + 1 + 1, o7), (L' + 1 + 1 + 1 + 1 + 1 + 1 + 1 + 1, o8)] ∧ o1.data = .cell v1 ∧ o2.data = .cell v2 ∧ o3.data = .cell v3 ∧ o4.data = .cell v4 ∧ o5.data = .cell v5 ∧ o6.data = .cell v6 ∧ o7.data = .cell v7 ∧ o8.data = .cell v8 := by
    refine ⟨_, _, _, _, _, _, _, _, none, none, none, none, none, none, none, none, news_pick N ⟨by k_mem, by k_mem, by k_mem, by k_mem, by k_mem, by k_mem, by k_mem, by k_mem, trivial⟩, ?_, ?_, ?_, ?_, ?_, ?_, ?_, ?_⟩ <;> assumption
  refine wpAny_mono (Q := fun fl s' => fl = .ret (.bool true) ∧ s'.os = s.os ∧ AllBare s'.gens ∧ Soft s.heap s'.heap ∧ Tabs s'.heap) (E := noE) ?_ (fun fl s' hq => ?_) (fun _ _ h => h.elim)
  rotate_left
  · obtain ⟨rfl, q1, q2, q3, q4⟩ := hq
    exact hQ _ _ q1 q2 q3 q4 rfl
  show wpAny _ _ (execs (lawIs w 0) (lawEnv w L')) _ _ _
  refine Hold.out ?_
  refine seg_h0 (bm := bm) (ob := ob) X T (by walk_at "m_hand") (by k_room) (by walk_at "m_units") HL HI hn F N ?_
  intro h2 tk2 th F2 N2
  generalize ns.getD 0 0 = hv at F2
  have m0 := Int.fmod_nonneg_of_pos (hv.fdiv 2) (b := 2) (by decide)
  have m1 := Int.fmod_lt_of_pos (hv.fdiv 2) (b := 2) (by decide)
  have m2 := Int.fmod_nonneg_of_pos (hv.fdiv 4) (b := 5) (by decide)
  have m3 := Int.fmod_lt_of_pos (hv.fdiv 4) (b := 5) (by decide)
  have m4 := Int.fmod_nonneg_of_pos (hv.fdiv 20) (b := 5) (by decide)
  have m5 := Int.fmod_lt_of_pos (hv.fdiv 20) (b := 5) (by decide)
  rcases (show 2 + (hv.fdiv 2).fmod 2 = 2 ∨ 2 + (hv.fdiv 2).fmod 2 = 3 by omega) with hc | hc
  · refine Hold.out ?_
    refine seg_h1_2 (bm := bm) (ob := ob) X T (by walk_at "m_hand") (by k_room) (by walk_at "m_units") HL HI hn F2 N2 d1 d2 d3 d4 d5 d6 d7 d8 hc ?_
    intro h3 tk3 tc b m D H a1 a2 w1 w2 p1 p2 F3 N3 d1' d2' lH lHa la1 laD ht
    refine Hold.out ?_
    refine seg_loop2 (bm := bm) (ob := ob) X T (by walk_at "m_hand") (by k_room) (by walk_at "m_units") HL HI hn F3 N3 d3 lH lHa la1 laD ht ?_
    rintro h4 tk4 u4 vs1 vs2 n1 n2 e1 e2 p3 F4 N4 ⟨v3', d3'⟩ I1 I2 hlen ht
    refine Hold.out ?_
    refine seg_rows2 (bm := bm) (ob := ob) X T (by walk_at "m_hand") (by k_room) (by walk_at "m_units") F4 N4 (.inr lH) d1' d2' d3' d4 d5 d6 d7 d8 I1 (by omega) I2 (by omega) ht ?_
    intro h5 tk5 u5 R r1 r2 eR f1 f2 p5 F5 N5 oR or1 or2 oH d5' ht
    refine Hold.out ?_
    refine seg_kinds2 (bm := bm) (ob := ob) X T (by walk_at "m_hand") (by k_room) (by walk_at "m_units") F5 N5 oR or1 or2 oH d1' d2' d3' d4 d5' d6 d7 d8 I1 (by omega) I2 (by omega) ht ?_
    rintro h6 tk6 u6 K vk eK kd p4 p6 F6 N6 _ _ _ _ oK d6' ⟨v4', d4'⟩ IK hk k1 k2 hkd ht
    refine Hold.out ?_
    refine seg_shared2 (bm := bm) (ob := ob) X T (by walk_at "m_hand") (by k_room) (by walk_at "m_units") F6 N6 oR or1 or2 oH oK IK (by omega) d1' d2' d3' d4' d5' d6' d7 d8 I1 (by omega) I2 (by omega) ht ?_
    rintro h7 tk7 u7 t1 t2 q3 p7 F7 N7 d7' ⟨v3'', d3''⟩ ht
    refine Hold.out ?_
    refine seg_sizes2 (bm := bm) (ob := ob) X T (by walk_at "m_hand") (by k_room) (by walk_at "m_units") F7 N7 oR or1 or2 oH oK IK (by omega) d1' d2' d3'' d4' d5' d6' d7' d8 I1 (by omega) I2 (by omega) ht ?_
    intro h8 tk8 u8 Z eZ x1 x2 p8 F8 N8 oZ d8' ht
    refine Hold.out ?_
    refine seg_dues2 (bm := bm) (ob := ob) X T (by walk_at "m_hand") (by k_room) (by walk_at "m_units") F8 N8 oR or1 or2 oH oK IK (by omega) oZ d1' d2' d3'' d4' d5' d6' d7' d8' I1 (by omega) I2 (by omega) (law_and2 hk k1).symm (law_or2 hk k1 k2).symm (law_size hk k1).symm (law_size hk k2).symm hlen ⟨by omega, by omega⟩ ⟨by omega, by omega⟩  ht ?_
    intro h9 tk9 u9 Du eD y1 y2 y3 y4 F9 N9 Y1 Y2 Y3 Y4 ht
    refine Hold.out ?_
    refine seg_told2 B hG nb (by walk_at "m_hand") (by k_room) (by walk_at "m_units") F9 N9 d1' d2' d3'' d4' d5' d6' d7' d8' I1 (by omega) I2 (by omega) Y1 Y2 Y3 Y4 ⟨by omega, by omega⟩ ⟨by omega, by omega⟩  ht ?_
    intro hA10 s10 u10 B10 S10 os10 G10 F10 N10
    refine Hold.out ?_
    refine seg_tail2 (tc := 0) B10 G10 (by walk_at "m_hand") (by k_room) (by walk_at "m_units") F10 N10 d1' d2' d3'' d4' d5' d6' d7' d8' I1 (by omega) I2 (by omega) hlen ?_
    intro s11 os11 G11 S11 T11
    exact ⟨rfl, os11.trans os10, G11, S10.trans S11, T11⟩
  · refine Hold.out ?_
    refine seg_h1_3 (bm := bm) (ob := ob) X T (by walk_at "m_hand") (by k_room) (by walk_at "m_units") HL HI hn F2 N2 d1 d2 d3 d4 d5 d6 d7 d8 hc ?_
    intro h3 tk3 tc b m D H a1 a2 a3 w1 w2 w3 p1 p2 F3 N3 d1' d2' lH lHa la1 la2 laD ht
    refine Hold.out ?_
    refine seg_loop3 (bm := bm) (ob := ob) X T (by walk_at "m_hand") (by k_room) (by walk_at "m_units") HL HI hn F3 N3 d3 lH lHa la1 la2 laD ht ?_
    rintro h4 tk4 u4 vs1 vs2 vs3 n1 n2 n3 e1 e2 e3 p3 F4 N4 ⟨v3', d3'⟩ I1 I2 I3 hlen ht
    refine Hold.out ?_
    refine seg_rows3 (bm := bm) (ob := ob) X T (by walk_at "m_hand") (by k_room) (by walk_at "m_units") F4 N4 (.inr lH) d1' d2' d3' d4 d5 d6 d7 d8 I1 (by omega) I2 (by omega) I3 (by omega) ht ?_
    intro h5 tk5 u5 R r1 r2 r3 eR f1 f2 f3 p5 F5 N5 oR or1 or2 or3 oH d5' ht
    refine Hold.out ?_
    refine seg_kinds3 (bm := bm) (ob := ob) X T (by walk_at "m_hand") (by k_room) (by walk_at "m_units") F5 N5 oR or1 or2 or3 oH d1' d2' d3' d4 d5' d6 d7 d8 I1 (by omega) I2 (by omega) I3 (by omega) ht ?_
    rintro h6 tk6 u6 K vk eK kd p4 p6 F6 N6 _ _ _ _ _ oK d6' ⟨v4', d4'⟩ IK hk k1 k2 k3 hkd ht
    refine Hold.out ?_
    refine seg_shared3 (bm := bm) (ob := ob) X T (by walk_at "m_hand") (by k_room) (by walk_at "m_units") F6 N6 oR or1 or2 or3 oH oK IK (by omega) d1' d2' d3' d4' d5' d6' d7 d8 I1 (by omega) I2 (by omega) I3 (by omega) ht ?_
    rintro h7 tk7 u7 t1 t2 q3 p7 F7 N7 d7' ⟨v3'', d3''⟩ ht
    refine Hold.out ?_
    refine seg_sizes3 (bm := bm) (ob := ob) X T (by walk_at "m_hand") (by k_room) (by walk_at "m_units") F7 N7 oR or1 or2 or3 oH oK IK (by omega) d1' d2' d3'' d4' d5' d6' d7' d8 I1 (by omega) I2 (by omega) I3 (by omega) ht ?_
    intro h8 tk8 u8 Z eZ x1 x2 x3 p8 F8 N8 oZ d8' ht
    refine Hold.out ?_
    refine seg_dues3 (bm := bm) (ob := ob) X T (by walk_at "m_hand") (by k_room) (by walk_at "m_units") F8 N8 oR or1 or2 or3 oH oK IK (by omega) oZ d1' d2' d3'' d4' d5' d6' d7' d8' I1 (by omega) I2 (by omega) I3 (by omega) (law_and3 hk k1).symm (law_or3 hk k1 k2 k3).symm (law_size hk k1).symm (law_size hk k2).symm (law_size hk k3).symm hlen ⟨by omega, by omega⟩ ⟨by omega, by omega⟩ ⟨by omega, by omega⟩  ht ?_
    intro h9 tk9 u9 Du eD y1 y2 y3 y4 F9 N9 Y1 Y2 Y3 ht
    refine Hold.out ?_
    refine seg_told3 B hG nb (by walk_at "m_hand") (by k_room) (by walk_at "m_units") F9 N9 d1' d2' d3'' d4' d5' d6' d7' d8' I1 (by omega) I2 (by omega) I3 (by omega) Y1 Y2 Y3 ⟨by omega, by omega⟩ ⟨by omega, by omega⟩ ⟨by omega, by omega⟩  ht ?_
    intro hA10 s10 u10 B10 S10 os10 G10 F10 N10
    refine Hold.out ?_
    refine seg_tail3 (tc := 0) B10 G10 (by walk_at "m_hand") (by k_room) (by walk_at "m_units") F10 N10 d1' d2' d3'' d4' d5' d6' d7' d8' I1 (by omega) I2 (by omega) I3 (by omega) (by omega) ?_
    intro s11 os11 G11 S11 T11
    exact ⟨rfl, os11.trans os10, G11, S10.trans S11, T11⟩

end

section
open PySem PySem.W PySem.Calls PyProof.Rows
set_option maxHeartbeats 4000000
theorem soft_oldK {h h' : Heap} (t : Tabs h) (s : Soft h h') : OldK h h' := by
  obtain ⟨⟨ps, _, ta⟩, ⟨qs, _, tb⟩⟩ := t
  obtain ⟨ma, ea⟩ := s.a ps ta.2
  obtain ⟨mb, eb⟩ := s.b qs tb.2
  refine ⟨fun b o e => ?_, fun b o e => ?_⟩
  · by_cases h1 : b = 167
    · subst h1
      have q := Option.some.inj (e.symm.trans ta.2)
      subst q
      exact .inr (.inl ⟨ta.isCodeTable, rfl, ps, ma, rfl, ea⟩)
    · by_cases h2 : b = 296
      · subst h2
        have q := Option.some.inj (e.symm.trans tb.2)
        subst q
        exact .inr (.inl ⟨tb.isCodeTable, rfl, qs, mb, rfl, eb⟩)
      · exact .inl (s.keep b o h1 h2 e)
  · by_cases h1 : b = 167
    · subst h1; exact ⟨_, ea⟩
    · by_cases h2 : b = 296
      · subst h2; exact ⟨_, eb⟩
      · exact ⟨_, s.keep b o h1 h2 e⟩
end
end Mine
open PySem PySem.W PySem.Calls PyProof.Rows Mine
set_option maxHeartbeats 4000000 in
set_option maxRecDepth 100000 in
theorem PySem.Challenge.cw_br0038_01_holds : PySem.Challenge.rw_br0038_01.Holds :=
  hd (by
  k_fill
  intro w s₀ s₁ mg mb G Y fa o pm cd doc dV kV ho hdf hcd hD hmg hg args vals as hpre hlay hrd hwl hlo
  obtain ⟨X, ⟨e167, e296⟩, ⟨o1, he1, hc1⟩, nb⟩ := tHook_says Y
  refine Ground.open G ?_
  intro T B D TE TW
  clear B D TE TW
  obtain ⟨bm, ob, M⟩ := bmod_of_top T
  wrow_args hpre hlay hrd hwl hlo
  have hm : mg (PySem.Str.ofString "law") = some (.ref fa) := hmg
  have hm2 : mg (PySem.Str.ofString "law") = some (.ref 387) := mg_of X T.g (by kernel_rfl)
  have hfa : fa = 387 := by rw [hm] at hm2; exact Value.ref.inj (Option.some.inj hm2)
  subst hfa
  have tabs : Tabs s₁.heap := ⟨⟨_, (codeHd_of_K (c := 169) (P := 167) X (by kernel_rfl)).code e167 (by trivial), (codeHd_of_K (c := 169) (P := 167) X (by kernel_rfl)).tab e167⟩, ⟨_, (codeHd_of_K (c := 300) (P := 296) X (by kernel_rfl)).code e296 (by trivial), (codeHd_of_K (c := 300) (P := 296) X (by kernel_rfl)).tab e296⟩⟩
  have BB := Bas.mk X (topRead_of T) ⟨⟨o1, he1⟩⟩ M tabs (fun o e => by rw [show s₁.heap.get? sysModules = some o1 from he1] at e; cases e; exact hc1)
  clear hcd hD hdf ho hmg hm hm2
  refine CodeS.use (P := fun v _ => v = .bool true) (gives_law BB nb (AllBare.of_eq hg) rfl (by decide) (by decide) (by assumption) (by assumption) (by omega)) ?_
  rintro v s2 hos hG2 sf tb rfl
  exact ⟨.inl ⟨.bool true, .bool true, [], rfl, fun cls => rfl, .bool _, by first | (with_unfolding_all rfl) | kernel_rfl | (with_unfolding_all decide) | decide, fun _ => ⟨.nil, nofun⟩⟩, soft_oldK tabs sf, hos, hG2⟩)
