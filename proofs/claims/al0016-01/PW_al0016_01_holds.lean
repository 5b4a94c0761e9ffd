import PyProof.Rows.All
import Wide.All
import OpenK.AllK
import Wide.FinOn
import PySem.Challenge.RW_al0016_01
set_option Elab.async false
namespace Mine
section PartHD
open PySem PySem.W PyProof.Rows
set_option maxRecDepth 100000
set_option maxHeartbeats 8000000
set_option maxRecDepth 100000
set_option maxHeartbeats 8000000
/-- the written part is named; what is left to show stays -/
theorem named {P : Prop} (_H : Hook) (_hw : True) (hc : P) : P := hc
section
local macro_rules | `(tactic| o_head $H) => `(tactic| refine named $H ?hw ?hc)
local macro_rules | `(tactic| w_witness2) => `(tactic| exact True.intro)
open_top hd for PySem.Challenge.rw_al0016_01.row
end
/-- the text without the statements whose names are let loose -/
def hd.view_39 : Program := { PySem.Challenge.rw_al0016_01.row.toRowW.1 with main := { PySem.Challenge.rw_al0016_01.row.toRowW.1.main with body := PySem.Challenge.rw_al0016_01.row.toRowW.1.main.body.take 1 ++ ((PySem.Challenge.rw_al0016_01.row.toRowW.1.main.body.drop 2).take 8 ++ PySem.Challenge.rw_al0016_01.row.toRowW.1.main.body.drop 11) } }
end PartHD

section PartD1
open PySem PySem.Calls PySem.W PyProof.Rows Builtin
set_option maxRecDepth 100000
set_option maxHeartbeats 4000000
/-- an object of a class whose base is list -/
abbrev domObj (C dx : Addr) (items : Array Value) (n : Nat) : Obj := { cls := .ref C, dict := some dx, data := .seq items n }

def makesL (K : Frag) (C : Addr) : Bool := match K.lookup C with
  | some ⟨_, _, .cls cd, sl⟩ => !cd.abstract && !cd.hasDel && (sl.toList[4]?).join == some (.builtin "list.__new__") && !cd.mro.isEmpty && cd.mro.contains (.ref C) && cd.mro.contains (.type "list") &&
      specialIn K (.ref C) "__call__" == some (some (.builtin "type.__call__")) && instIn K (.ref C) (.type "type") == some true
  | _ => false
structure MakesL (M : Model) (h : Heap) (C : Addr) : Prop where
  obj : ∃ oc od cd sl, h.get? C = some ⟨oc, od, .cls cd, sl⟩ ∧ cd.abstract = false ∧ cd.hasDel = false ∧ cd.mro.isEmpty = false
  made : Looks M h (Bind.madeBy (.ref C)) (some "list.__new__")
  base : Looks M h (Bind.staticBase (.ref C)) (.ref C)
  self : Looks M h (isSubtype (.ref C) (.ref C)) true
  lst : Looks M h (isSubtype (.ref C) (.type "list")) true
  call : Looks M h (specialOf (.ref C) "__call__") (some (.builtin "type.__call__"))
  typ : Looks M h (isInstance (.ref C) (.type "type")) true

theorem makesL_of {K : Frag} {M : Model} {h : Heap} (X : K.In h) {C : Addr} (e : makesL K C = true) : MakesL M h C := by
  unfold makesL at e
  split at e
  · rename_i oc od cd sl ho
    simp only [Bool.and_eq_true, Bool.not_eq_true', beq_iff_eq] at e
    obtain ⟨⟨⟨⟨⟨⟨⟨e1, e2⟩, e3⟩, e4⟩, e5⟩, e6⟩, e7⟩, e8⟩ := e
    have hc : clsIn K C = some cd := by unfold clsIn; rw [ho]
    have hm : Looks M h (mroOf (.ref C)) cd.mro := (looks_clsIn X hc).andThen .now
    obtain ⟨c, l, hl⟩ : ∃ c l, cd.mro = c :: l := by cases q : cd.mro with | nil => rw [q] at e4; cases e4 | cons c l => exact ⟨c, l, rfl⟩
    have made : Looks M h (Bind.madeBy (.ref C)) (some "list.__new__") := by
      intro A Q E s k q
      unfold Bind.madeBy
      refine wpAny_bind (hm A _ E s k ?_)
      rw [hl, List.forIn_cons]
      refine wpAny_bind (wpAny_bind (wpAny_bind (wpAny_bind (wpAny_loadPart (k _ _ (X _ _ ho)) (wpAny_pure ?_)))))
      dsimp only
      rw [← Array.getElem?_toList, e3]
      exact wpAny_pure (wpAny_pure (wpAny_pure q))
    refine ⟨⟨oc, od, cd, sl, X _ _ ho, e1, e2, e4⟩, made, ?_, looks_mroIn X ?_, looks_mroIn X ?_, looks_specialIn X e7, looks_instIn X e8⟩
    · intro A Q E s k q
      unfold Bind.staticBase
      refine wpAny_bind (hm A _ E s k ?_)
      rw [hl, List.forIn_cons]
      exact wpAny_bind (wpAny_bind (wpAny_bind (made A _ E s k (wpAny_pure (wpAny_pure (wpAny_pure q))))))
    · unfold mroIn; rw [hc, Option.bind_some, if_neg (by rw [e4]; decide), e5]
    · unfold mroIn; rw [hc, Option.bind_some, if_neg (by rw [e4]; decide), e6]
  · cases e

section
variable {prog : Program} {w : World} {A : Around} {K : Frag} {C : Addr} {R : Result → Shared → Prop} {h : Heap} {g : Array GenState} {d : Drawn} {t : Nat} {os : OsState}

theorem kind_new : builtinKind "list.__new__" = some .builtinFn := by decide +kernel
theorem split_new : splitId "list.__new__" = some ("list", "__new__") := by decide +kernel

theorem newArgs (a b : Value) : argsOk "list.__new__" ⟨[a, b], []⟩ := by unfold argsOk; kernel_rfl
theorem newL {a : Value} (Y : MakesL (model prog w) h C)
    (hq : R (.ok (.ret (.ref (h.objs.size + 1)))) ⟨(h.push emptyDict).push (domObj C h.objs.size #[] 0), g, d, t, os⟩) :
    codeAny (model prog w) A (.call (.builtin "list.__new__") ⟨[.ref C, a], []⟩) R ⟨h, g, d, t, os⟩ := by
  obtain ⟨⟨oc, od, cd, sl, hC, e1, e2, e4⟩, made, base, self, lst, call, typ⟩ := Y
  refine codeAny_call_builtin_code (plainId_quiet PySem.F.plain_list_new _) ?_
  have hck : wpAny (model prog w) A.in1 (match Manifest.signature? "list.__new__" with
      | some sig => Bind.checkArgs "list.__new__" sig ⟨[.ref C, a], []⟩
      | none => pure ()) (fun _ s₁ => codeAny (model prog w) A (.builtin "list.__new__" ⟨[.ref C, a], []⟩) R s₁) (fun e s' => R (.error e) s') ⟨h, g, d, t, os⟩ := by
    have ha := newArgs (.ref C) a
    have fin : codeAny (model prog w) A (.builtin "list.__new__" ⟨[.ref C, a], []⟩) R ⟨h, g, d, t, os⟩ := by
      refine codeAny_builtin_stack PySem.F.entry_list_new rfl fun p st => ?_
      rw [Around.under_plainId PySem.F.plain_list_new _]
      have hown := owner_list_new
      simp only [hown]
      have hC' := Heap.get?_push_of_some (domObj C h.objs.size #[] 0) (Heap.get?_push_of_some emptyDict hC)
      repeat (first | simp only [Bool.false_eq_true, if_false, Bool.not_true] | lk)
      rw [e2, if_neg Bool.false_ne_true]
      refine wpAny_pure (wpAny_pure ?_)
      show R _ _
      rw [Heap.size_push]
      exact hq
    cases hsig : Manifest.signature? "list.__new__" with
    | none => exact wpAny_pure fin
    | some sig =>
      simp only [argsOk, hsig] at ha
      have h2 : Bind.checkArgs "list.__new__" sig ⟨[.ref C, a], []⟩ = pure () := ha
      show wpAny _ _ (Bind.checkArgs "list.__new__" sig _) _ _ _
      rw [h2]; exact wpAny_pure fin
  simp only [checkBuiltinCall, kind_new, split_new]
  repeat (first | exact hck | simp only [bne_self_eq_false, beq_self_eq_true, Bool.false_eq_true, if_false, if_true, Bool.not_true] | lk)

theorem makeL_core {a init : Value} (Y : MakesL (model prog w) h C) (hi : Looks (model prog w) h (typeLookup (.ref C) "__init__") (some init))
    (hb : ∀ self, Looks (model prog w) h (bindSpecial init self) (init, [self]))
    (hq : codeAny (model prog w) (A.under (.builtin "type.__call__" ⟨[.ref C, a], []⟩)) (.call init ⟨[.ref (h.objs.size + 1), a], []⟩) (InitBack (h.objs.size + 1) R) ⟨(h.push emptyDict).push (domObj C h.objs.size #[] 0), g, d, t, os⟩) :
    codeAny (model prog w) A (.call (.ref C) ⟨[a], []⟩) R ⟨h, g, d, t, os⟩ := by
  have Y' := Y
  obtain ⟨⟨oc, od, cd, sl, hC, e1, e2, e4⟩, made, base, self, top, call, typ⟩ := Y
  refine codeAny_of_tree ?_
  show wpAny _ _ (callAny (.ref C) _) _ _ _
  refine nd_load hC ?_
  show wpAny _ _ (callAny.viaDunder (.ref C) _) _ _ _
  unfold callAny.viaDunder
  refine wpAny_bind (call.at ?_)
  dsimp only
  rw [tc_bind]
  refine wpAny_bind (wpAny_pure (wpAny_bind (wpAny_pure ?_)))
  refine wpAny_pure (a := Fin.again (.call (.builtin "type.__call__") ⟨[.ref C, a], []⟩)) (And.intro rfl ?_)
  refine codeAny_call_builtin_at (Code.quiet_builtin _ (by decide +kernel)) entry_typeCall (check_slot tc_kind tc_split typ (tc_args _ _ _) ?_)
  unfold Builtin.«type.__call__»
  have hm : Looks (model prog w) h (mroOf (.ref C)) cd.mro := ((Looks.ld (part := none) hC).andThen .now).andThen .now
  repeat (first | simp only [e4, Bool.false_eq_true, if_false] | with_reducible refine wpAny_call ?_ | lk)
  refine newL Y' ?_
  have k : ∀ b o, h.get? b = some o → ((h.push emptyDict).push (domObj C h.objs.size #[] 0)).get? b = some o := fun b o e => Heap.get?_push_of_some _ (Heap.get?_push_of_some _ e)
  have hx : ((h.push emptyDict).push (domObj C h.objs.size #[] 0)).get? (h.objs.size + 1) = some (domObj C h.objs.size #[] 0) := by heap_get
  have t1 : Looks (model prog w) ((h.push emptyDict).push (domObj C h.objs.size #[] 0)) (typeOf (.ref (h.objs.size + 1))) (.ref C) := (Looks.ld hx).andThen .now
  have s1 := self.keeps k
  have i1 := hi.keeps k
  have b1 := (hb (.ref (h.objs.size + 1))).keeps k
  unfold isInstance callSpecial? specialOf
  repeat (first | with_reducible refine wpAny_call ?_ | lk)
  refine codeAny_mono hq fun r s' z => ?_
  rcases r with e | (v | _ | _ | _) <;> first | exact z | exact z.elim | skip
  obtain ⟨rfl, z⟩ := z
  exact wpAny_pure (wpAny_pure z)
end

section
variable {prog : Program} {w : World} {A : Around} {K : Frag} {C x L : Addr} {s : Shared} {h₀ : Heap} {m : Str → Option Value} {news : List (Addr × Obj)} {E : Value → Shared → Prop} {Q : Value → Shared → Prop}
theorem call_clsL {a : Value} {fI : Addr} (F : Fr h₀ L s.heap m) (X₀ : K.In h₀) (N : News h₀ L s.heap news) (hm : makesL K C = true)
    (hi : findIn K (.ref C) "__init__" = some (some (.ref fI))) (hf : isFn K (.ref fI) = true)
    (h : ∀ x dx h', Fr h₀ L h' m → News h₀ L h' ((x, domObj C dx #[] 0) :: (dx, dictOf [] 0) :: news) → (∀ p ∈ news, p.1 < dx) → dx < x →
      codeAny (model prog w) (A.under (.builtin "type.__call__" ⟨[.ref C, a], []⟩)) (.call (.ref fI) ⟨[.ref x, a], []⟩) (InitBack x fun r s' => match r with | .ok (.ret v) => Q v s' | .ok _ => False | .error e => E e s') { s with heap := h' }) :
    wpAny (model prog w) A (call (.ref C) [a] []) Q E s := by
  have X := X₀.keeps F.keep
  obtain ⟨hh, g, d, t, os⟩ := s
  refine wpAny_call (makeL_core (makesL_of X hm) (looks_findIn X hi) (fun self => bind_fn X self (beq_iff_eq.mp hf)) (h _ hh.objs.size _ ((F.push _).push _) ?_ (fun p hp => Heap.lt_size (N p hp).1) (Nat.lt_succ_self _)))
  have := (N.push F emptyDict).push (F.push _) (domObj C hh.objs.size #[] 0)
  rwa [Heap.size_push] at this
end
end PartD1

section PartD2
open PySem PySem.Calls PySem.W PyProof.Rows Builtin
set_option maxRecDepth 100000
set_option maxHeartbeats 4000000
theorem instD {h₀ h : Heap} {L x C dx : Addr} {news : List (Addr × Obj)} {od : Obj} {items : Array Value} {n : Nat} (N : News h₀ L h news) (h1 : (x, domObj C dx items n) ∈ news) (h2 : (dx, od) ∈ news) :
    PySem.W.InstAt h x (domObj C dx items n) C (some od) := ⟨(N _ h1).1, rfl, rfl, (N _ h2).1⟩

section
variable {prog : Program} {w : World} {M : Model} {A : Around} {E : Value → Shared → Prop} {s : Shared} {K : Frag} {h₀ : Heap} {L : Addr} {m : PySem.Str → Option Value} {news news' : List (Addr × Obj)}

/-- one object of the ledger changed -/
theorem updK {d : Addr} {o o' : Obj} {f : Obj → Obj} {h : Heap} (F : Fr h₀ L h m) (N : News h₀ L h news) (U : Upd d o o' news news') (e : f o = o') (hf : o'.isFreed = false) :
    Fr h₀ L (h.update d f) m ∧ News h₀ L (h.update d f) news' := by
  obtain ⟨pre, post, rfl, rfl, a, b⟩ := U.split
  exact news_upd F N a b e hf
theorem updMem {d : Addr} {o o' : Obj} : ∀ {l l' : List (Addr × Obj)}, Upd d o o' l l' → (d, o) ∈ l
  | _, _, .head _ => .head _
  | _, _, .tail _ r => .tail _ (updMem r)

theorem updSame {d : Addr} {o o' : Obj} : ∀ {l l' : List (Addr × Obj)}, Upd d o o' l l' → Upd d o o l l
  | _, _, .head h => .head h
  | _, _, .tail h r => .tail h (updSame r)

theorem getm_list_init {pl : Sem Bool} {Q : Value × List Value → Shared → Prop} (F : Fr h₀ L s.heap m) (X₀ : K.In h₀)
    (h : Q (.builtin "list.__init__", []) { s with toks := s.toks + 1 }) :
    wpAny (model prog w) A (getMethod (.type "list") (PySem.Str.ofString "__init__") pl) Q E s := by
  have X := X₀.keeps F.keep
  have e : findCls K (.type "list") (.type "type") (PySem.Str.ofString "__init__") = some (.val (.builtin "list.__init__")) := by rfl
  have hstub : opaqueClassAbove (.type "list") = pure none := by unfold opaqueClassAbove; dsimp only; rw [show Manifest.isStub "list" = false by decide +kernel]; rfl
  have ht : typeOf (.type "list") = pure (.type "type") := by first | rfl | kernel_rfl
  have L0 : Looks (model prog w) s.heap (typeOf (.type "list")) (.type "type") := Looks.of_pure ht
  have hg : findIn K (.type "type") "__getattribute__" = some (some (.builtin "type.__getattribute__")) := type_tga
  unfold getMethod specialOf
  refine wpAny_bind (wpAny_bind (L0.here ((looks_findIn X hg).here ?_)))
  dsimp only
  rw [if_pos canon_tga]
  refine wpAny_bind (wpAny_mono (Q := fun v => Q (v, [])) (E := E) ?_ (fun _ _ z => wpAny_pure z) fun _ _ z => z)
  have LO : Looks (model prog w) s.heap (opaqueClassAbove (.type "list")) none := Looks.of_pure hstub
  refine cls_open X LO L0 hg (looks_hook X (r := none) (by rfl)) (by show subIn K _ _ = _; rfl) e ?_
  exact wpAny_pure (by show wpAny _ _ (handedOut _) _ _ _; rw [handedOut_of (by decide +kernel)]; exact wpAny_pure h)

theorem isList_dom {C x : Addr} {ox : Obj} {od : Option Obj} {h : Heap} (X : K.In h) (I : PySem.W.InstAt h x ox C od) (e : mroIn K C (.type "list") = some true) : Looks M h (isInstance (.ref x) (.type "list")) true :=
  I.type.andThen (looks_mroIn X e)

/-- a built-in of list called on an object of a class based on list -/
theorem call_dom {id n : String} {B : Builtin} {self : Value} {rest : List Value} {Q : Value → Shared → Prop} (hk : builtinKind id = some .slot ∨ builtinKind id = some .method) (hs : splitId id = some ("list", n))
    (hi : Looks (model prog w) s.heap (isInstance self (.type "list")) true) (ha : argsOk id ⟨self :: rest, []⟩) (plain : plainId id = true) (entry : entryFor table id = some B)
    (h : wpAny (model prog w) A.in1 (B ⟨self :: rest, []⟩) (fun fin s' => match fin with | .done f => wants Q E (.ok f) s' | .again c' => c'.quiet = true ∧ codeAny (model prog w) A c' (wants Q E) s') (fun e s' => wants Q E (.error e) s') s) :
    wpAny (model prog w) A (call (.builtin id) (self :: rest)) Q E s := by
  refine wpAny_call (codeAny_call_builtin plain entry ?_)
  simp only [checkBuiltinCall, hs]
  rcases hk with hk | hk <;>
  · simp only [hk]
    refine wpAny_bind (hi.here ?_)
    simp only [Bool.not_true, Bool.false_eq_true, if_false]
    cases hsig : Manifest.signature? id with
    | none => exact wpAny_pure h
    | some sig =>
      simp only [argsOk, hsig] at ha
      have h2 : Bind.checkArgs id sig ⟨self :: rest, []⟩ = pure () := ha
      show wpAny _ _ (Bind.checkArgs id sig _) _ _ _
      rw [h2]; exact wpAny_pure h

theorem mapSeq_seq (f : Array Value → Array Value) (c : Value) (d : Option Addr) (items : Array Value) (n : Nat) : ∃ n', Obj.mapSeq f ⟨c, d, .seq items n, #[]⟩ = ⟨c, d, .seq (f items) n', #[]⟩ := ⟨_, rfl⟩


/-- the epoch behind a store -/
def nx (xs ys : Array Value) (n : Nat) : Nat := if ys.size == xs.size then n else n + 1
theorem dom_mapSeq (f : Array Value → Array Value) (C dx : Addr) (items : Array Value) (n : Nat) : Obj.mapSeq f (domObj C dx items n) = domObj C dx (f items) (nx items (f items) n) := rfl
theorem list_mapSeq (f : Array Value → Array Value) (items : Array Value) (n : Nat) : Obj.mapSeq f (W.listOf items n) = W.listOf (f items) (nx items (f items) n) := rfl

theorem init_dom {C x dx it : Addr} {od oi : Obj} {items : Array Value} {n ni : Nat} {Q : Value → Shared → Prop} (F : Fr h₀ L s.heap m) (X₀ : K.In h₀) (N : News h₀ L s.heap news)
    (hd : (dx, od) ∈ news) (e : mroIn K C (.type "list") = some true) (U : Upd x (domObj C dx #[] n) (domObj C dx items (nx #[] items n)) news news')
    (ho : s.heap.get? it = some oi) (hc : oi.cls = .type "list" ∨ oi.cls = .type "tuple") (hs : oi.data = .seq items ni) (hz : items.size ≤ sizeLine)
    (h : ∀ h', Fr h₀ L h' m → News h₀ L h' news' → Q .none { s with heap := h' }) :
    wpAny (model prog w) A (call (.builtin "list.__init__") [.ref x, .ref it]) Q E s := by
  have X := X₀.keeps F.keep
  have hx := updMem U
  have hx' := (N _ hx).1
  have hne : x ≠ it := by
    rintro rfl
    rw [hx'] at ho
    cases ho
    rcases hc with hc | hc <;> cases hc
  refine call_dom (n := "__init__") (.inl (by decide +kernel)) (by decide +kernel) (isList_dom X (instD N hx hd) e) (PySem.F.args_list_init_2 _ _) (by decide +kernel) PySem.F.entry_list_init ?_
  obtain ⟨hh, g, d, tk, os⟩ := s
  obtain ⟨oc, odd, odt, osl⟩ := oi
  dsimp only at hc hs ho hx'
  subst hs
  show wpAny _ _ (do let old ← Builtin.List.listItems (.ref x); Builtin.List.listUpdate (.ref x) (fun _ => #[]); letGo old.toList.reverse; Builtin.List.listExtendWith (.ref x) (.ref it) .none) _ _ _
  have hx2 : (hh.update x (Obj.mapSeq fun _ => #[])).get? x = some (domObj C dx #[] n) := Heap.get?_update_self _ hx' rfl
  have ho2 : (hh.update x (Obj.mapSeq fun _ => #[])).get? it = some { cls := oc, dict := odd, data := Data.seq items ni, slots := osl } := (Heap.get?_update_other _ _ hne).trans ho
  refine wpAny_bind (wpAny_bind (wpAny_seqItems hx' rfl (wpAny_pure ?_)))
  refine wpAny_bind (wpAny_updateSeq hx' rfl ?_)
  refine wpAny_bind (wpAny_letGo ?_)
  unfold Builtin.List.listExtendWith
  dsimp only
  refine wpAny_bind ((show Looks (model prog w) (hh.update x (Obj.mapSeq fun _ => #[])) (typeOf (.ref it)) oc from (Looks.ld ho2).andThen .now).here ?_)
  have hcond : (List.listSameRef (.ref x) (.ref it) || oc == .type "list" || oc == .type "tuple") = true := by
    rcases hc with rfl | rfl
    · simp
    · simp
  rw [if_pos hcond]
  refine wpAny_bind (wpAny_bind (wpAny_seqItems ho2 rfl (wpAny_pure ?_)))
  refine wpAny_bind (wpAny_bind (wpAny_seqItems hx2 rfl (wpAny_pure ?_)))
  rw [if_neg (by simp)]
  refine wpAny_bind (wpAny_updateSeq hx2 rfl ?_ (_hz' := ?_))
  · obtain ⟨F1, N1⟩ := updK (f := Obj.mapSeq fun _ => #[]) F N (updSame U) rfl rfl
    obtain ⟨F2, N2⟩ := updK (f := Obj.mapSeq fun x => x ++ items) F1 N1 U (by rw [dom_mapSeq]; simp) rfl
    exact wpAny_pure (h _ F2 N2)
  · simp only [Array.size_append]; show 0 + _ ≤ _; omega
end
end PartD2

section PartD3
open PySem PySem.Calls PySem.W PyProof.Rows Builtin
set_option maxRecDepth 100000
set_option maxHeartbeats 4000000
theorem refuse_list (self : Value) : refuseLoop self "__setattr__" [.type "list", .type "object"] = pure () := by kernel_rfl

/-- the class stands right above list -/
def overList (K : Frag) (C : Addr) : Bool := match clsIn K C with
  | some cd => cd.hasDict && cd.mro == [.ref C, .type "list", .type "object"]
  | none => false
theorem overList_cls {K : Frag} {C : Addr} (e : overList K C = true) : ∃ cd, clsIn K C = some cd ∧ cd.hasDict = true ∧ cd.mro = [.ref C, .type "list", .type "object"] := by
  unfold overList at e
  split at e
  · rename_i cd h
    rw [Bool.and_eq_true] at e
    exact ⟨cd, h, e.1, beq_iff_eq.mp e.2⟩
  · cases e
theorem overList_mro {K : Frag} {C : Addr} (e : overList K C = true) {b : Value} (hb : b = .ref C ∨ b = .type "list" ∨ b = .type "object") : mroIn K C b = some true := by
  obtain ⟨cd, h, _, hm⟩ := overList_cls e
  unfold mroIn
  rw [h, Option.bind_some, hm]
  rcases hb with rfl | rfl | rfl <;> simp

section
variable {prog : Program} {w : World} {A : Around} {E : Value → Shared → Prop} {s : Shared} {K : Frag} {x C dx L : Addr} {h₀ : Heap} {m : PySem.Str → Option Value} {news news' : List (Addr × Obj)}

/-- a field of such an object is stored: its own dict takes it -/
theorem setL {ox : Obj} {es es' : List DictEntry} {n n' : Nat} {name : PySem.Str} {v : Value} {Q : Unit → Shared → Prop} (F : Fr h₀ L s.heap m) (X₀ : K.In h₀) (N : News h₀ L s.heap news)
    (I : PySem.W.InstAt s.heap x ox C (some (dictOf es n))) (hd : ox.dict = some dx)
    (hs : findIn K (.ref C) "__setattr__" = some (some (.builtin "object.__setattr__"))) (hp : overList K C = true) (ht : findIn K (.ref C) name = some none) (hl : (getL name es).isSome = true)
    (e : (putL name (PyData.keyHash w.params name) (.str name (s.toks + 1)) v es, putN name es n) = (es', n')) (U : Upd dx (dictOf es n) (dictOf es' n') news news') (hz : es'.length ≤ 1000)
    (h : ∀ h', Fr h₀ L h' m → News h₀ L h' news' → Q () { s with heap := h', toks := s.toks + 1 + 1 }) : wpAny (model prog w) A (setAttr (.ref x) name v) Q E s := by
  have X := X₀.keeps F.keep
  obtain ⟨cd, hc, hcd, hm⟩ := overList_cls hp
  refine set_plain X I hs ?_
  have SF := PySem.F.store_object
  have sub : Looks (model prog w) s.heap (isInstance (.ref x) (.type "object")) true := I.type.andThen (looks_mroIn X (overList_mro hp (.inr (.inr rfl))))
  refine codeAny_call_builtin SF.slot.plain SF.entry (@check_slot (model prog w) _ _ { s with toks := s.toks + 1 } "object.__setattr__" "object" "__setattr__" (.ref x) [.str name s.toks, v] [] _ SF.kind SF.split sub (SF.args (.ref x) (.str name s.toks) v) ?_)
  have hml : Looks (model prog w) s.heap (mroOf (.ref C)) cd.mro := (looks_clsIn X hc).andThen .now
  rw [osa_eq, refuse_eq]
  refine wpAny_bind (wpAny_bind (I.type.here (s := { s with toks := s.toks + 1 }) (wpAny_bind (hml.here (s := { s with toks := s.toks + 1 }) ?_))))
  rw [hm, refuseLoop_ref, refuse_list]
  refine wpAny_pure (wpAny_bind (I.type.here (s := { s with toks := s.toks + 1 }) (wpAny_bind ((looks_findIn X ht).here (s := { s with toks := s.toks + 1 }) ?_))))
  refine wpAny_bind (wpAny_pure (a := none) ?_)
  dsimp only
  obtain ⟨e1, e2⟩ := Prod.mk.inj e
  obtain ⟨F1, N1⟩ := updK (f := Obj.putName name (PyData.keyHash w.params name) (.str name (s.toks + 1)) v) F N U (by rw [putName_dict, e1, e2]) rfl
  have D := (N _ (updMem U)).1
  have D' : (s.heap.update dx (Obj.putName name (PyData.keyHash w.params name) (.str name (s.toks + 1)) v)).get? dx = some (dictOf es' n') := by
    rw [Heap.get?_update_self _ D (by rw [putName_dict]; rfl), putName_dict, e1, e2]
  obtain ⟨hx, hcl, hn, -⟩ := I
  obtain ⟨oc, odi, oda, osl⟩ := ox
  dsimp only at hcl hd
  subst hcl hd
  refine wpAny_bind (wpAny_pure (wpAny_bind (wpAny_bind (wpAny_loadPart hx (wpAny_bind ((looks_clsIn X hc).here (s := { s with toks := s.toks + 1 }) ?_))))))
  rw [hcd]
  refine wpAny_pure (a := some dx) (wpAny_bind (wpAny_pure (wpAny_bind ?_)))
  unfold nsSet
  refine wpAny_bind (wpAny_bind (wpAny_askSetting (wpAny_pure (wpAny_bind (wpAny_mkText (wpAny_bind (wpAny_loadPart D ?_)))))))
  have c : (!(es.toArray).any (·.key.isStr name) && (es.toArray).any (·.refKey)) = false := by
    rw [← Array.any_toList, ← Array.any_toList]
    unfold getL at hl
    split at hl
    · rename_i en he
      rw [List.any_eq_true.mpr ⟨en, List.mem_of_find?_eq_some he, List.find?_some he⟩]; rfl
    · split at hl
      · cases hl
      · rename_i z; rw [Bool.not_eq_true] at z; rw [z, Bool.and_false]
  dsimp only
  rw [aRefKeyMayBeTheName_at, c]
  refine wpAny_updatePart D ?_
  refine wpAny_bind (wpAny_lookBehind D' (pastItsLine_dict (by rw [List.size_toArray, sizeLine_eq]; omega)) ?_)
  exact wpAny_pure (h _ F1 N1)
end
end PartD3

section PartD4
open PySem PySem.Calls PySem.W PyProof.Rows Builtin
set_option maxRecDepth 100000
set_option maxHeartbeats 4000000
/-- what is asked of the class C in the written part -/
structure LC (K : Frag) (C : Addr) : Prop where
  over : overList K C = true
  iter : findIn K (.ref C) "__iter__" = some (some (.builtin "list.__iter__"))
  len : findIn K (.ref C) "__len__" = some (some (.builtin "list.__len__"))
  bool : findIn K (.ref C) "__bool__" = some none
  has : findIn K (.ref C) "__contains__" = some (some (.builtin "list.__contains__"))
  getattribute : findIn K (.ref C) "__getattribute__" = some (some (.builtin "list.__getattribute__"))
  getattr : findIn K (.ref C) "__getattr__" = some none

section
variable {prog : Program} {w : World} {M : Model} {A : Around} {E : Value → Shared → Prop} {s : Shared} {K : Frag} {x C dx L : Addr} {h₀ : Heap} {m : PySem.Str → Option Value} {news news' : List (Addr × Obj)} {ox : Obj} {od : Option Obj}

theorem LC.sub (Y : LC K C) (X : K.In s.heap) (I : PySem.W.InstAt s.heap x ox C od) : Looks M s.heap (isInstance (.ref x) (.type "list")) true :=
  I.type.andThen (looks_mroIn X (overList_mro Y.over (.inr (.inl rfl))))

/-- what stands at an address is a sequence -/
def SeqIs (h : Heap) (a : Addr) (items : Array Value) : Prop := ∃ o n, h.get? a = some o ∧ o.data = .seq items n
theorem SeqIs.keep {h h' : Heap} {a : Addr} {items : Array Value} (q : SeqIs h a items) (k : ∀ o, h.get? a = some o → h'.get? a = some o) : SeqIs h' a items :=
  let ⟨o, n, ho, hd⟩ := q; ⟨o, n, k o ho, hd⟩


theorem unlessNone_look {v : Value} {name : PySem.Str} {id : String} {refuse : Sem Value} {Q : Option Value → Shared → Prop} (L1 : Looks M s.heap (specialOf v name) (some (.builtin id)))
    (hb : bindSpecial (.builtin id) v = pure (.builtin id, [v])) (hc : wpAny M A (call (.builtin id) [v]) (fun r => Q (some r)) E s) : wpAny M A (callSpecialIfBoundUnlessNone? v name refuse) Q E s := by
  have fin : wpAny M A (if (Value.builtin id == Value.none) = true then (refuse >>= fun r => pure (some r)) else (call (.builtin id) [v] >>= fun r => pure (some r))) Q E s := by
    rw [if_neg (by simp)]
    exact wpAny_bind (wpAny_mono hc (fun r s' z => wpAny_pure z) fun _ _ z => z)
  simp only [callSpecialIfBoundUnlessNone?, bindSpecialIfBound?]
  refine wpAny_holding (wpAny_bind (wpAny_bind (L1.here ?_)))
  simp only [hb]
  refine wpAny_bind (wpAny_askSetting (wpAny_ite ?_))
  split
  · exact wpAny_bind (wpAny_pure (wpAny_pure fin))
  · exact wpAny_tryCatch (wpAny_bind (wpAny_pure (wpAny_pure fin)))

/-- next of a list_iterator over whatever sequence -/
theorem next_item {it l : Addr} {i : Nat} {items : Array Value} {v : Value} {Q : Option Value → Shared → Prop} (hit : s.heap.IsListIter it l i) (hl : SeqIs s.heap l items) (hx : items[i]? = some v)
    (hQ : ∀ h', h'.IsListIter it l (i + 1) → Heap.SameBut it s.heap h' → Q (some v) { s with heap := h' }) : wpAny (model prog w) A (pyNext (.ref it)) Q E s := by
  obtain ⟨o, ho, hc, hd⟩ := id hit
  obtain ⟨ol, nl, hol, hdl⟩ := hl
  unfold pyNext
  refine wpAny_bind (wpAny_attempt (wpAny_callSpecial?_slot (name := PySem.Str.ofString "__next__") hit.typeIs slot_listiter_next (wpAny_call_entry slot_listiter_next hit.typeIs entry_listiter_next ?_ (args_listiter_next _))))
  show wpAny _ _ (field (.ref it) 0 >>= _) _ _ s
  refine wpAny_bind (wpAny_field ho hd (x := .ref l) rfl ?_)
  show wpAny _ _ (if (Value.ref l == Value.none) = true then _ else _) _ _ s
  rw [if_neg (by simp)]
  show wpAny _ _ (field (.ref it) 1 >>= _) _ _ s
  refine wpAny_bind (wpAny_field ho hd (x := .int i 0) rfl ?_)
  show wpAny _ _ (seqItems? (.ref l) >>= _) _ _ s
  refine wpAny_bind (wpAny_seqItems hol hdl ?_)
  simp only [Int.toNat_natCast, hx]
  refine wpAny_bind (wpAny_setField ho hd (by simp) (wpAny_pure ⟨v, rfl, wpAny_pure (hQ _ ?_ (Heap.SameBut.update ..))⟩))
  exact ⟨_, Heap.get?_update_self _ ho (Obj.isFreed_of_fields (Obj.data_mapFields hd _)), (Obj.cls_mapFields ..).trans hc, by rw [Obj.data_mapFields hd]; simp [rawInt]⟩

theorem next_end {it l : Addr} {i : Nat} {items : Array Value} {Q : Option Value → Shared → Prop} (hh : A.handled = none) (hit : s.heap.IsListIter it l i) (hl : SeqIs s.heap l items) (hx : items[i]? = none)
    (hQ : ∀ h', Heap.ExtBut it s.heap h' → Q none { s with heap := h' }) : wpAny (model prog w) A (pyNext (.ref it)) Q E s := by
  obtain ⟨o, ho, hc, hd⟩ := id hit
  obtain ⟨ol, nl, hol, hdl⟩ := hl
  unfold pyNext
  refine wpAny_bind (wpAny_attempt (wpAny_callSpecial?_slot (name := PySem.Str.ofString "__next__") hit.typeIs slot_listiter_next (wpAny_call_entry slot_listiter_next hit.typeIs entry_listiter_next ?_ (args_listiter_next _))))
  show wpAny _ _ (field (.ref it) 0 >>= _) _ _ s
  refine wpAny_bind (wpAny_field ho hd (x := .ref l) rfl ?_)
  show wpAny _ _ (if (Value.ref l == Value.none) = true then _ else _) _ _ s
  rw [if_neg (by simp)]
  show wpAny _ _ (field (.ref it) 1 >>= _) _ _ s
  refine wpAny_bind (wpAny_field ho hd (x := .int i 0) rfl ?_)
  show wpAny _ _ (seqItems? (.ref l) >>= _) _ _ s
  refine wpAny_bind (wpAny_seqItems hol hdl ?_)
  simp only [Int.toNat_natCast, hx]
  refine wpAny_bind (wpAny_rule (wpAny_bind (wpAny_setField ho hd (by simp) ?_)))
  show wpAny _ _ (newExc (.type "StopIteration") [] >>= _) _ _ _
  refine wpAny_bind ?_
  simp only [newExc, newTuple]
  refine wpAny_bind (wpAny_newObj_type ?_ (by size_fits))
  refine wpAny_bind (m := firstArgMember _ _) (wpAny_of_eq (a := Value.none) (by first | rfl | (simp only [firstArgMember]; rfl)) ?_)
  refine wpAny_newObj_type ?_ (by size_fits)
  simp only [raiseNew]
  refine wpAny_bind (wpAny_handled ?_)
  rw [show A.in1.handled = none from hh]
  refine wpAny_bind (wpAny_pure (wpAny_throw ?_))
  refine wpAny_bind (wpAny_isInstance (T := "StopIteration") (b := true) ⟨_, Heap.get?_push_size _ rfl, rfl⟩ isSubtype_stop ?_)
  exact wpAny_pure (hQ _ (((Heap.SameBut.update ..).extBut.push _).push _))

theorem iter_dom {Q : Value → Shared → Prop} (X : K.In s.heap) (Y : LC K C) (I : PySem.W.InstAt s.heap x ox C od)
    (hQ : Q (.ref s.heap.objs.size) { s with heap := s.heap.push { cls := .type "list_iterator", data := .fields #[.ref x, .int 0 0] } }) : wpAny (model prog w) A (pyIter (.ref x)) Q E s := by
  have L1 : Looks (model prog w) s.heap (specialOf (.ref x) "__iter__") (some (.builtin "list.__iter__")) := I.type.andThen (looks_findIn X Y.iter)
  unfold pyIter
  refine wpAny_bind (L1.here ?_)
  dsimp only
  refine wpAny_bind (unlessNone_look L1 (PySem.slot_list_iter.bind _) ?_)
  refine call_dom (n := "__iter__") (.inl (by decide +kernel)) (by decide +kernel) (Y.sub X I) (PySem.F.args_list_iter_1 _) (by decide +kernel) PySem.F.entry_list_iter ?_
  show wpAny _ _ (do ret (← newFields "list_iterator" [.ref x, rawInt 0])) _ _ s
  refine wpAny_bind (wpAny_newObj_type (wpAny_pure ?_))
  exact wpAny_bind (wpAny_specialOf (T := "list_iterator") ⟨_, Heap.get?_push_size _ rfl, rfl⟩ PySem.slot_listiter_next.lookup (wpAny_pure hQ))

/-- list.extend's loop over a list_iterator, into whatever sequence -/
theorem ext_loop {S it l : Addr} {c : Value} {d : Option Addr} {items : Array Value} {res : Value} {R : Result → Shared → Prop} (hh : A.handled = none) (hSi : S ≠ it) (hSl : S ≠ l) (hli : l ≠ it) (hz : items.size ≤ sizeLine) (k : Nat) :
    ∀ (i : Nat) (s : Shared) (acc : Array Value) (n : Nat), items.size - i = k → i ≤ items.size → s.heap.get? S = some ⟨c, d, .seq acc n, #[]⟩ → acc.size = i → s.heap.IsListIter it l i → SeqIs s.heap l items →
      (∀ h' n', h'.get? S = some ⟨c, d, .seq (acc ++ (items.toList.drop i).toArray) n', #[]⟩ → (∀ b o, b ≠ S → b ≠ it → s.heap.get? b = some o → h'.get? b = some o) → R (.ok (.ret res)) { s with heap := h' }) →
      wpAny (model prog w) A.in1 (Builtin.«list.extend.loop» ⟨[.ref S, .ref it, res], []⟩) (fun fin s' => match fin with | .done f => R (.ok f) s' | .again c' => c'.quiet = true ∧ codeAny (model prog w) A c' R s') (fun e s' => R (.error e) s') s := by
  induction k with
  | zero =>
    intro i s acc n hk hi hS ha hit hl hR
    show wpAny _ _ (pyNext (.ref it) >>= _) _ _ _
    have hi' : i = items.size := by omega
    refine wpAny_bind (next_end (show A.in1.handled = none from hh) hit hl (by simp [hi']) fun h' he => wpAny_pure ?_)
    refine hR h' n ?_ (fun b o _ hb e => he b o hb e)
    have : items.toList.drop i = [] := by simp [hi']
    rw [this]
    simpa using he S _ hSi hS
  | succ k ih =>
    intro i s acc n hk hi hS ha hit hl hR
    have hlt : i < items.size := by omega
    show wpAny _ _ (pyNext (.ref it) >>= _) _ _ _
    refine wpAny_bind (next_item hit hl (v := items[i]) (by simp [hlt]) fun h' hit' hs' => ?_)
    dsimp only
    have hS' : h'.get? S = some ⟨c, d, .seq acc n, #[]⟩ := hs'.extBut S _ hSi hS
    show wpAny _ _ (Builtin.List.listUpdate (.ref S) (·.push items[i]) >>= fun _ => again (.builtin "list.extend.loop" ⟨[.ref S, .ref it, res], []⟩)) _ _ _
    refine wpAny_bind (wpAny_updateSeq hS' rfl ?_ (hz := by omega) (_hz' := by rw [Array.size_push]; omega))
    have hS2 : (h'.update S (Obj.mapSeq (·.push items[i]))).get? S = some ⟨c, d, .seq (acc.push items[i]) (nx acc (acc.push items[i]) n), #[]⟩ := Heap.get?_update_self _ hS' rfl
    have oth : ∀ b o, b ≠ S → b ≠ it → s.heap.get? b = some o → (h'.update S (Obj.mapSeq (·.push items[i]))).get? b = some o := fun b o hb hb' e => (Heap.get?_update_other _ _ (Ne.symm hb)).trans (hs'.extBut b o hb' e)
    refine wpAny_pure ⟨plainId_quiet PySem.F.plain_extend_loop _, codeAny_builtin PySem.F.entry_extend_loop ?_⟩
    rw [Around.under_plainId PySem.F.plain_extend_loop _]
    refine ih (i + 1) _ (acc.push items[i]) _ (by omega) hlt hS2 (by rw [Array.size_push, ha]) ?_ ?_ ?_
    · obtain ⟨o, ho, hc, hd⟩ := hit'
      exact ⟨o, (Heap.get?_update_other _ _ hSi).trans ho, hc, hd⟩
    · exact hl.keep fun o e => oth l o (Ne.symm hSl) hli e
    · intro h2 n2 e2 k2
      refine hR h2 n2 ?_ (fun b o hb hb' e => k2 b o hb hb' (oth b o hb hb' e))
      rw [e2]
      have hd : items.toList.drop i = items[i] :: items.toList.drop (i + 1) := by simp [List.drop_eq_getElem_cons, hlt]
      rw [hd]
      congr 3
      apply Array.ext'
      simp
end
end PartD4

section PartD5
open PySem PySem.Calls PySem.W PyProof.Rows Builtin
set_option maxRecDepth 100000
set_option maxHeartbeats 4000000
section
variable {prog : Program} {w : World} {M : Model} {A : Around} {E : Value → Shared → Prop} {s : Shared} {K : Frag} {x C dx L : Addr} {h₀ : Heap} {m : PySem.Str → Option Value} {news news' : List (Addr × Obj)} {ox : Obj} {od : Option Obj} {items : Array Value}

theorem if_yes {α : Type} {c : Prop} [Decidable c] {a b : Sem α} {Q : α → Shared → Prop} (hc : c) (h : wpAny M A a Q E s) : wpAny M A (if c then a else b) Q E s := by rw [if_pos hc]; exact h
theorem special_look {v : Value} {name : PySem.Str} {id : String} {args : List Value} {Q : Option Value → Shared → Prop} (L1 : Looks M s.heap (specialOf v name) (some (.builtin id)))
    (hb : bindSpecial (.builtin id) v = pure (.builtin id, [v])) (hc : wpAny M A (call (.builtin id) (v :: args)) (fun r => Q (some r)) E s) : wpAny M A (callSpecial? v name args) Q E s := by
  simp only [callSpecial?]
  refine wpAny_bind (L1.here ?_)
  simp only [hb]
  exact wpAny_holding (wpAny_bind (wpAny_pure (wpAny_bind (wpAny_mono hc (fun v s' h' => wpAny_pure h') fun _ _ h' => h'))))
theorem special_none {v : Value} {name : PySem.Str} {args : List Value} {Q : Option Value → Shared → Prop} (L1 : Looks M s.heap (specialOf v name) none) (h : Q none s) : wpAny M A (callSpecial? v name args) Q E s := by
  simp only [callSpecial?]
  exact wpAny_bind (L1.here (wpAny_pure h))

theorem len_body {Q : Value → Shared → Prop} (X : K.In s.heap) (Y : LC K C) (I : PySem.W.InstAt s.heap x ox C od) (hs : SeqIs s.heap x items) (hz : items.size ≤ sizeLine)
    (h : Q (.int items.size (s.toks + 1)) { s with toks := s.toks + 1 + 1 }) : wpAny (model prog w) A (Builtin.«len» ⟨[.ref x], []⟩) (fun fin s' => ∃ r, fin = .done (.ret r) ∧ Q r s') E s := by
  have hz' : (items.size : Int) < 2 ^ 63 := by rw [sizeLine_eq] at hz; omega
  obtain ⟨o, n, ho, hd⟩ := hs
  have L1 : Looks (model prog w) s.heap (specialOf (.ref x) "__len__") (some (.builtin "list.__len__")) := I.type.andThen (looks_findIn X Y.len)
  unfold Builtin.«len»
  refine wpAny_bind (m := oneArg "len" _) (wpAny_pure ?_)
  refine wpAny_bind (m := callSpecial? (.ref x) (PySem.Str.ofString "__len__")) (special_look L1 (PySem.slot_list_len.bind _) ?_)
  refine call_dom (n := "__len__") (.inl (by decide +kernel)) (by decide +kernel) (Y.sub X I) (PySem.F.args_list_len_1 _) (by decide +kernel) PySem.F.entry_list_len ?_
  show wpAny _ _ (do retInt (← seqSize x)) _ _ s
  unfold seqSize
  refine wpAny_bind (wpAny_bind (wpAny_load ho ?_))
  rw [hd]
  refine wpAny_pure (wpAny_bind (wpAny_mkInt (wpAny_pure ?_)))
  refine wpAny_bind (wpAny_holding (wpAny_pure ?_))
  refine wpAny_bind (wpAny_letGo ?_)
  show wpAny _ _ (if ((items.size : Nat) : Int) < 0 then _ else _) _ _ _
  rw [if_neg (by omega)]
  show wpAny _ _ (if ((items.size : Nat) : Int) ≥ 2 ^ 63 then _ else _) _ _ _
  rw [if_neg (by omega)]
  exact wpAny_bind (wpAny_mkInt (wpAny_pure ⟨_, rfl, h⟩))

theorem len_dom {Q : Value → Shared → Prop} (X : K.In s.heap) (Y : LC K C) (I : PySem.W.InstAt s.heap x ox C od) (hs : SeqIs s.heap x items) (hz : items.size ≤ sizeLine)
    (h : Q (.int items.size (s.toks + 1)) { s with toks := s.toks + 1 + 1 }) : wpAny (model prog w) A (call (.builtin "len") [.ref x]) Q E s :=
  call_function_entry kind_len plain_len entry_len (args_len1 _) (wpAny_mono (len_body X Y I hs hz h) (fun fin s' z => by obtain ⟨r, rfl, q⟩ := z; exact ⟨r, rfl, q⟩) fun _ _ e => e)

theorem truthy_dom {Q : Bool → Shared → Prop} (X : K.In s.heap) (Y : LC K C) (I : PySem.W.InstAt s.heap x ox C od) (hs : SeqIs s.heap x items) (hz : items.size ≤ sizeLine)
    (h : Q (decide (items.size ≠ 0)) { s with toks := s.toks + 1 + 1 }) : wpAny (model prog w) A (truthy (.ref x)) Q E s := by
  have L0 : Looks (model prog w) s.heap (specialOf (.ref x) "__bool__") none := I.type.andThen (looks_findIn X Y.bool)
  have L1 : Looks (model prog w) s.heap (specialOf (.ref x) "__len__") (some (.builtin "list.__len__")) := I.type.andThen (looks_findIn X Y.len)
  have key : wpAny (model prog w) A (runValue (.builtin "len" ⟨[.ref x], []⟩)) (fun r s' => r = .int items.size (s.toks + 1) ∧ Q (decide (items.size ≠ 0)) s') E s := by
    refine wpAny_runValue (codeAny_builtin entry_len ?_)
    rw [Around.under_plainId plain_len _]
    exact wpAny_mono (len_body (Q := fun r s' => r = .int items.size (s.toks + 1) ∧ Q (decide (items.size ≠ 0)) s') X Y I hs hz ⟨rfl, h⟩)
      (fun fin s' h' => by obtain ⟨r, rfl, hq⟩ := h'; exact hq) fun _ _ e => e
  unfold truthy
  refine wpAny_bind (m := callSpecial? (.ref x) (PySem.Str.ofString "__bool__")) (special_none L0 ?_)
  refine wpAny_bind (L1.here ?_)
  rw [if_neg (show ¬ ((some (Value.builtin "list.__len__")).isNone = true) by decide)]
  refine wpAny_bind (wpAny_mono key (fun r s' z => ?_) fun _ _ e => e)
  obtain ⟨rfl, q⟩ := z
  dsimp only
  have e : ((items.size : Int) != 0) = decide (items.size ≠ 0) := by
    by_cases z : items.size = 0
    · simp [z]
    · simp [z]
  rw [e]
  exact wpAny_pure q

theorem hint_dom {Q : Bool → Shared → Prop} (X : K.In s.heap) (Y : LC K C) (I : PySem.W.InstAt s.heap x ox C od) (hs : SeqIs s.heap x items) (hz : items.size ≤ sizeLine)
    (h : Q (decide (items.size ≠ 0)) { s with toks := s.toks + 1 + 1 }) : wpAny (model prog w) A (Builtin.List.listLengthHint (.ref x)) Q E s := by
  have L1 : Looks (model prog w) s.heap (specialOf (.ref x) "__len__") (some (.builtin "list.__len__")) := I.type.andThen (looks_findIn X Y.len)
  unfold Builtin.List.listLengthHint
  refine wpAny_bind (L1.here ?_)
  dsimp only
  rw [show splitId "list.__len__" = some ("list", "__len__") by decide +kernel]
  dsimp only
  refine wpAny_bind ((Y.sub X I).here ?_)
  rw [if_neg (show ¬ ((!true) = true) by decide)]
  refine' if_yes ?hc ?_
  case hc => decide +kernel
  refine wpAny_bind (I.type.here ?_)
  refine wpAny_bind (len_dom X Y I hs hz ?_)
  refine wpAny_bind (wpAny_pure ?_)
  dsimp only
  have e : ((items.size : Int) != 0) = decide (items.size ≠ 0) := by
    by_cases z : items.size = 0
    · simp [z]
    · simp [z]
  rw [e]
  exact wpAny_pure h

/-- list.extend of an empty sequence by such an object -/
theorem extend_dom {S : Addr} {c : Value} {d : Option Addr} {n : Nat} {res : Value} {R : Result → Shared → Prop} (hh : A.handled = none) (X : K.In s.heap) (Y : LC K C) (I : PySem.W.InstAt s.heap x ox C od) (hs : SeqIs s.heap x items) (hz : items.size ≤ sizeLine)
    (hS : s.heap.get? S = some ⟨c, d, .seq #[] n, #[]⟩) (hSx : S ≠ x)
    (hR : ∀ h' n' tk, h'.get? S = some ⟨c, d, .seq items n', #[]⟩ → (∀ b o, b ≠ S → s.heap.get? b = some o → h'.get? b = some o) → R (.ok (.ret res)) { s with heap := h', toks := tk }) :
    wpAny (model prog w) A.in1 (Builtin.List.listExtendWith (.ref S) (.ref x) res)
      (fun fin s' => match fin with | .done f => R (.ok f) s' | .again c' => c'.quiet = true ∧ codeAny (model prog w) A c' R s') (fun e s' => R (.error e) s') s := by
  have hxl : x < s.heap.objs.size := Heap.lt_size I.at_
  have hSl : S < s.heap.objs.size := Heap.lt_size hS
  unfold Builtin.List.listExtendWith
  refine wpAny_bind (I.type.here ?_)
  have hcond : (List.listSameRef (.ref S) (.ref x) || Value.ref C == .type "list" || Value.ref C == .type "tuple") = false := by
    simp [Builtin.List.listSameRef, hSx]
  dsimp only
  rw [hcond, if_neg Bool.false_ne_true]
  refine wpAny_bind (iter_dom X Y I ?_)
  have k1 : ∀ b o, s.heap.get? b = some o → (s.heap.push { cls := .type "list_iterator", data := .fields #[.ref x, .int 0 0] }).get? b = some o := fun b o e => Heap.get?_push_of_some _ e
  have X1 : K.In (s.heap.push { cls := .type "list_iterator", data := .fields #[.ref x, .int 0 0] }) := X.keeps k1
  have I1 : PySem.W.InstAt (s.heap.push { cls := .type "list_iterator", data := .fields #[.ref x, .int 0 0] }) x ox C od := by
    obtain ⟨a1, a2, a3, a4⟩ := I
    refine ⟨k1 _ _ a1, a2, a3, ?_⟩
    split at a4
    · exact k1 _ _ a4
    · trivial
    · exact a4
  have hs1 : SeqIs (s.heap.push { cls := .type "list_iterator", data := .fields #[.ref x, .int 0 0] }) x items := hs.keep fun o e => k1 _ _ e
  refine wpAny_bind (wpAny_holding (hint_dom (s := { s with heap := s.heap.push { cls := .type "list_iterator", data := .fields #[.ref x, .int 0 0] } }) X1 Y I1 hs1 hz ?_))
  have fin : ∀ (h1 : Heap) (n1 : Nat) (tk : Nat), h1.get? S = some ⟨c, d, .seq #[] n1, #[]⟩ → h1.get? s.heap.objs.size = some { cls := .type "list_iterator", data := .fields #[.ref x, .int 0 0] } → (∀ b o, b ≠ S → s.heap.get? b = some o → h1.get? b = some o) →
      codeAny (model prog w) A (.builtin "list.extend.loop" ⟨[.ref S, .ref s.heap.objs.size, res], []⟩) R { s with heap := h1, toks := tk } := by
    intro h1 n1 tk e1 e2 e3
    refine codeAny_builtin PySem.F.entry_extend_loop ?_
    rw [Around.under_plainId PySem.F.plain_extend_loop _]
    refine ext_loop hh (Nat.ne_of_lt hSl) hSx (Nat.ne_of_lt hxl) hz _ 0 _ #[] n1 rfl (Nat.zero_le _) e1 rfl ⟨_, e2, rfl, rfl⟩ (hs.keep fun o e => e3 _ _ (Ne.symm hSx) e) ?_
    intro h2 n2 f1 f2
    refine hR h2 n2 tk ?_ fun b o hb e => ?_
    · rw [f1]; simp
    · exact f2 b o hb (fun z => by rw [z] at e; exact absurd (Heap.lt_size e) (Nat.lt_irrefl _)) (e3 b o hb e)
  split
  · refine wpAny_bind (wpAny_rule (wpAny_bind ?_))
    show wpAny _ A.in1 (updateSeq S (·.push .none) >>= fun _ => updateSeq S (·.pop)) _ _ _
    have hS1 := k1 _ _ hS
    refine wpAny_bind (wpAny_updateSeq hS1 rfl ?_ (hz := by simp) (_hz' := by simp))
    have hS₂ := Heap.get?_update_self (Obj.mapSeq (·.push Value.none)) hS1 rfl
    refine wpAny_updateSeq hS₂ rfl ?_ (hz := by rw [sizeLine_eq]; simp) (_hz' := by simp)
    have hS₃ := Heap.get?_update_self (Obj.mapSeq (·.pop)) hS₂ rfl
    refine wpAny_pure ⟨plainId_quiet PySem.F.plain_extend_loop _, fin _ _ _ hS₃ ?_ fun b o hb e => ?_⟩
    · exact (Heap.get?_update_other _ _ (Nat.ne_of_lt hSl)).trans ((Heap.get?_update_other _ _ (Nat.ne_of_lt hSl)).trans (Heap.get?_push_size _ rfl))
    · exact (Heap.get?_update_other _ _ (Ne.symm hb)).trans ((Heap.get?_update_other _ _ (Ne.symm hb)).trans (k1 _ _ e))
  · exact wpAny_pure ⟨plainId_quiet PySem.F.plain_extend_loop _, fin _ _ _ (k1 _ _ hS) (Heap.get?_push_size _ rfl) fun b o _ e => k1 _ _ e⟩
end
end PartD5

section PartD6
open PySem PySem.Calls PySem.W PyProof.Rows Builtin
set_option maxRecDepth 100000
set_option maxHeartbeats 4000000
section
variable {prog : Program} {w : World} {M : Model} {A : Around} {E : Value → Shared → Prop} {s : Shared} {K : Frag} {x C dx L : Addr} {h₀ : Heap} {m : PySem.Str → Option Value} {news news' : List (Addr × Obj)} {od : Obj} {items : Array Value} {n : Nat}

theorem list_dom {Q : Value → Shared → Prop} (hh : A.handled = none) (F : Fr h₀ L s.heap m) (X₀ : K.In h₀) (N : News h₀ L s.heap news) (Y : LC K C) (hx : (x, domObj C dx items n) ∈ news) (hd : (dx, od) ∈ news) (hz : items.size ≤ sizeLine)
    (h : ∀ D c h' tk, Fr h₀ L h' m → News h₀ L h' ((D, W.listOf items c) :: news) → (∀ q ∈ news, q.1 < D) → Q (.ref D) { s with heap := h', toks := tk }) : wpAny (model prog w) A (call (.type "list") [.ref x]) Q E s := by
  refine callType_codes (Q₁ := fun obj s₁ => obj = .ref s.heap.objs.size ∧ s₁ = { s with heap := s.heap.push { cls := .type "list", data := .seq #[] } }) PySem.F.called_list (PySem.F.typeCall_list_1 _) PySem.F.entry_list_init
    (code_list_new _ ⟨rfl, rfl⟩) ?_
  rintro _ _ ⟨rfl, rfl⟩
  have F1 := F.push { cls := .type "list", data := .seq #[] }
  have N1 := N.push F { cls := .type "list", data := .seq #[] } rfl
  have X1 := X₀.keeps F1.keep
  have I1 := instD N1 (.tail _ hx) (.tail _ hd)
  have hS : (s.heap.push { cls := .type "list", data := .seq #[] }).get? s.heap.objs.size = some ⟨.type "list", none, .seq #[] 0, #[]⟩ := Heap.get?_push_size _ rfl
  have hne : s.heap.objs.size ≠ x := Nat.ne_of_gt (Heap.lt_size (N _ hx).1)
  refine ⟨⟨_, hS, rfl⟩, PySem.F.args_list_init_2 _ _, ?_⟩
  show wpAny _ A.in1.in1 (do let old ← Builtin.List.listItems (.ref s.heap.objs.size); Builtin.List.listUpdate (.ref s.heap.objs.size) (fun _ => #[]); letGo old.toList.reverse; Builtin.List.listExtendWith (.ref s.heap.objs.size) (.ref x) .none) _ _ _
  refine wpAny_bind (wpAny_bind (wpAny_seqItems hS rfl (wpAny_pure ?_)))
  refine wpAny_bind (wpAny_updateSeq hS rfl ?_)
  refine wpAny_bind (wpAny_letGo ?_)
  obtain ⟨F2, N2⟩ := updK (f := Obj.mapSeq fun _ => #[]) F1 N1 (.head fun p hp => Nat.ne_of_lt (Heap.lt_size (N p hp).1)) (o' := ⟨.type "list", none, .seq #[] 0, #[]⟩) rfl rfl
  refine extend_dom (A := A.in1) (items := items) hh (X₀.keeps F2.keep) Y (instD N2 (.tail _ hx) (.tail _ hd)) ⟨_, _, (N2 _ (.tail _ hx)).1, rfl⟩ hz (N2 _ (.head _)).1 hne ?_
  intro h' n' tk e1 e2
  refine ⟨rfl, h _ n' h' tk ?_ ?_ fun q hq => Heap.lt_size (N q hq).1⟩
  · refine ⟨?_, fun b o e => e2 b o (fun z => ?_) (F2.keep b o e), F.above⟩
    · obtain ⟨oL, es, ep, hL, r⟩ := F2.ns
      exact ⟨oL, es, ep, e2 _ _ (Nat.ne_of_lt F.ns.lt) hL, r⟩
    · have q := (N1 _ (.head _)).2.2
      rw [z] at e
      dsimp only at q
      rw [e] at q
      cases q
  · intro q hq
    rcases List.mem_cons.mp hq with rfl | hq
    · exact ⟨e1, (N2 _ (.head _)).2⟩
    · exact ⟨e2 _ _ (Nat.ne_of_lt (Heap.lt_size (N q hq).1)) (N2 _ (.tail _ hq)).1, (N q hq).2⟩

theorem contains_loop_dom (e : Value → Bool) {v : Value} (he : ∀ y, y ∈ items → MeetsSeq.EqGives y v (e y)) {R : Result → Shared → Prop} (k : Nat) :
    ∀ (i : Nat) (s : Shared), items.size - i = k → SeqIs s.heap x items → R (.ok (.ret (.bool ((items.toList.drop i).any e)))) s →
      wpAny (model prog w) A.in1 (Builtin.«list.__contains__.loop» ⟨[.ref x, v, rawInt i], []⟩) (fun fin s' => match fin with | .done f => R (.ok f) s' | .again c' => c'.quiet = true ∧ codeAny (model prog w) A c' R s') (fun e s' => R (.error e) s') s := by
  induction k with
  | zero =>
    intro i s hk hs hR
    obtain ⟨o, n, ho, hd⟩ := hs
    show wpAny _ _ (Builtin.List.listItems (.ref x) >>= _) _ _ _
    refine wpAny_bind (wpAny_bind (wpAny_seqItems ho hd (wpAny_pure ?_)))
    have hi : items[((i : Nat) : Int).toNat]? = none := by simp; omega
    have hdr : items.toList.drop i = [] := by simp; omega
    rw [hdr] at hR
    rw [hi]
    exact wpAny_pure hR
  | succ k ih =>
    intro i s hk hs hR
    have hs' := hs
    obtain ⟨o, n, ho, hd⟩ := hs
    have hlt : i < items.size := by omega
    show wpAny _ _ (Builtin.List.listItems (.ref x) >>= _) _ _ _
    refine wpAny_bind (wpAny_bind (wpAny_seqItems ho hd (wpAny_pure ?_)))
    have hi : items[((i : Nat) : Int).toNat]? = some items[i] := by simp [hlt]
    have hdr : items.toList.drop i = items[i] :: items.toList.drop (i + 1) := by simp [List.drop_eq_getElem_cons, hlt]
    rw [hdr, List.any_cons] at hR
    rw [hi]
    refine wpAny_bind (he _ (Array.getElem_mem hlt) prog w _ _ _ _ ?_)
    cases hb : e items[i] with
    | true =>
      rw [hb] at hR
      exact wpAny_pure hR
    | false =>
      rw [hb] at hR
      have hc : ((i : Int) + 1) = ((i + 1 : Nat) : Int) := by push_cast; rfl
      rw [if_neg Bool.false_ne_true, hc]
      refine wpAny_pure ⟨plainId_quiet MeetsSeq.plain_contains_loop _, codeAny_builtin MeetsSeq.entry_contains_loop ?_⟩
      rw [Around.under_plainId MeetsSeq.plain_contains_loop _]
      exact ih (i + 1) s (by omega) hs' (by simpa using hR)

theorem in_dom {Q : Value → Shared → Prop} {vs : List Value} {ns : List Int} {k : Int} {t : Tok} (F : Fr h₀ L s.heap m) (X₀ : K.In h₀) (N : News h₀ L s.heap news) (Y : LC K C) (hx : (x, domObj C dx vs.toArray n) ∈ news) (hd : (dx, od) ∈ news) (hi : IntsAre vs ns)
    (h : Q (.bool (ns.any (· == k))) s) : wpAny (model prog w) A (compareOp .In (.int k t) (.ref x)) Q E s := by
  have X := X₀.keeps F.keep
  have I := instD N hx hd
  have L1 : Looks (model prog w) s.heap (specialOf (.ref x) "__contains__") (some (.builtin "list.__contains__")) := I.type.andThen (looks_findIn X Y.has)
  show wpAny _ _ (do return Value.bool (← contains (Value.ref x) (Value.int k t))) _ _ _
  refine wpAny_bind ?_
  unfold contains
  refine wpAny_holding ?_
  rw [show stdlibNamesSay? (.ref x) (.int k t) = none from rfl]
  dsimp only
  refine wpAny_bind (L1.here ?_)
  rw [if_neg (by simp)]
  refine wpAny_bind (m := callSpecialUnlessNone? (.ref x) (PySem.Str.ofString "__contains__") [.int k t] _) ?_
  unfold callSpecialUnlessNone?
  refine wpAny_bind (L1.here ?_)
  dsimp only
  rw [PySem.F.slot_list_contains.bind]
  refine wpAny_holding (wpAny_bind (wpAny_pure ?_))
  dsimp only
  rw [if_neg (by simp)]
  refine wpAny_bind ?_
  refine call_dom (n := "__contains__") (.inl (by decide +kernel)) (by decide +kernel) (Y.sub X I) (PySem.F.args_list_contains_2 _ _) (by decide +kernel) PySem.F.entry_list_contains ?_
  show wpAny _ _ (again (.builtin "list.__contains__.loop" ⟨[.ref x, .int k t, rawInt 0], []⟩)) _ _ _
  refine wpAny_pure ⟨plainId_quiet MeetsSeq.plain_contains_loop _, codeAny_builtin MeetsSeq.entry_contains_loop ?_⟩
  rw [Around.under_plainId MeetsSeq.plain_contains_loop _]
  refine contains_loop_dom (isInt k) (fun y hy => eq_isInt k t hi y (by simpa using hy)) _ 0 s rfl ⟨_, _, (N _ hx).1, rfl⟩ ?_
  refine wpAny_pure (wpAny_pure (wpAny_pure ?_))
  have e : ((vs.toArray.toList).drop 0).any (isInt k) = ns.any (· == k) := by rw [List.drop_zero]; exact any_isInt k hi
  rw [e]
  exact h

theorem len_domK {Q : Value → Shared → Prop} {vs : List Value} (F : Fr h₀ L s.heap m) (X₀ : K.In h₀) (N : News h₀ L s.heap news) (Y : LC K C) (hx : (x, domObj C dx vs.toArray n) ∈ news) (hd : (dx, od) ∈ news) (hz : vs.length ≤ sizeLine)
    (h : Q (.int vs.length (s.toks + 1)) { s with toks := s.toks + 1 + 1 }) : wpAny (model prog w) A (call (.builtin "len") [.ref x]) Q E s :=
  len_dom (items := vs.toArray) (X₀.keeps F.keep) Y (instD N hx hd) ⟨_, _, (N _ hx).1, rfl⟩ (by simpa using hz) (by simpa using h)
theorem truthy_domK {Q : Bool → Shared → Prop} {vs : List Value} (F : Fr h₀ L s.heap m) (X₀ : K.In h₀) (N : News h₀ L s.heap news) (Y : LC K C) (hx : (x, domObj C dx vs.toArray n) ∈ news) (hd : (dx, od) ∈ news) (hz : vs.length ≤ sizeLine)
    (h : Q (decide (vs.length ≠ 0)) { s with toks := s.toks + 1 + 1 }) : wpAny (model prog w) A (truthy (.ref x)) Q E s :=
  truthy_dom (items := vs.toArray) (X₀.keeps F.keep) Y (instD N hx hd) ⟨_, _, (N _ hx).1, rfl⟩ (by simpa using hz) (by simpa using h)

theorem meets_bool {items : Array Value} (hz : items.size ≤ sizeLine) : Meets (Builtin.«bool.__new__» ⟨[.type "bool", .ref x], []⟩)
    (fun _ R s => ∃ (K : Frag) (C : Addr) (ox : Obj) (od : Option Obj), K.In s.heap ∧ LC K C ∧ PySem.W.InstAt s.heap x ox C od ∧ SeqIs s.heap x items ∧ R (.ok (.ret (.bool (decide (items.size ≠ 0))))) { s with toks := s.toks + 1 + 1 }) := by
  rintro prog w A R s ⟨K, C, ox, od, X, Y, I, hs, h⟩
  have hsub : isSubtype (.type "bool") (.type "bool") = pure true := by rw [isSubtype_type]; kernel_rfl
  unfold Builtin.«bool.__new__»
  refine wpAny_bind (wpAny_pure ?_)
  refine wpAny_bind (wpAny_of_eq hsub ?_)
  show wpAny _ _ (truthy (.ref x) >>= fun b => ret (.bool b)) _ _ _
  exact wpAny_bind (truthy_dom X Y I hs hz (wpAny_pure h))
theorem bool_domK {Q : Value → Shared → Prop} {vs : List Value} (F : Fr h₀ L s.heap m) (X₀ : K.In h₀) (N : News h₀ L s.heap news) (Y : LC K C) (hx : (x, domObj C dx vs.toArray n) ∈ news) (hd : (dx, od) ∈ news) (hz : vs.length ≤ sizeLine)
    (h : Q (.bool (decide (vs.length ≠ 0))) { s with toks := s.toks + 1 + 1 }) : wpAny (model prog w) A (call (.type "bool") [.ref x]) Q E s :=
  call_bool_1 (meets_bool (items := vs.toArray) (by simpa using hz)) ⟨K, C, _, _, X₀.keeps F.keep, Y, instD N hx hd, ⟨_, _, (N _ hx).1, rfl⟩, ⟨rfl, by simpa using h⟩⟩
end
end PartD6

section PartD7
open PySem PySem.Calls PySem.W PyProof.Rows Builtin
set_option maxRecDepth 100000
set_option maxHeartbeats 4000000
section
variable {prog : Program} {w : World} {M : Model} {A : Around} {E : Value → Shared → Prop} {s : Shared} {K : Frag} {x C dx L : Addr} {h₀ : Heap} {m : PySem.Str → Option Value} {news news' : List (Addr × Obj)} {ox : Obj} {od : Option Obj} {items : Array Value} {n : Nat} {name : PySem.Str}

/-- a field that stands in the object's own dict is read -/
theorem getL {v : Value} {expr : Bool} {Q : Value → Shared → Prop} (F : Fr h₀ L s.heap m) (X₀ : K.In h₀) (Y : LC K C) (I : PySem.W.InstAt s.heap x ox C od) (hf : findObj K C od name = some (.value v)) (hh : handedIn v = true)
    (h : Q v { s with toks := s.toks + 1 }) : wpAny (model prog w) A (getAttr (.ref x) name expr) Q E s := by
  have X := X₀.keeps F.keep
  have L0 := I.type (M := model prog w)
  have L1 := looks_findIn (M := model prog w) X Y.getattribute
  have L2 := looks_findIn (M := model prog w) X Y.getattr
  have L3 := looks_find (M := model prog w) X I hf
  unfold getAttr getAttrBy
  refine wpAny_bind (wpAny_mkText (wpAny_holding (wpAny_bind (L0.here (s := { s with toks := s.toks + 1 }) (wpAny_bind (L1.here (s := { s with toks := s.toks + 1 }) ?_))))))
  dsimp only
  rw [show (onTheHeap (.ref C) && Value.builtin "list.__getattribute__" == Value.builtin "object.__getattribute__") = false from by rw [show (Value.builtin "list.__getattribute__" == Value.builtin "object.__getattribute__") = false from by decide +kernel, Bool.and_false], if_neg Bool.false_ne_true]
  unfold getAttrByItsOwn hookBefore
  rw [if_pos (show onTheHeap (.ref C) = true from rfl)]
  refine wpAny_bind (L2.here (s := { s with toks := s.toks + 1 }) (wpAny_bind (wpAny_attempt (wpAny_holding ?_))))
  unfold callGetattribute
  rw [show (expr && onTheHeap (Value.builtin "list.__getattribute__")) = false from Bool.and_false _, if_neg Bool.false_ne_true]
  unfold boundAndCalled
  rw [PySem.F.slot_list_getattribute.bind]
  refine wpAny_bind (wpAny_pure ?_)
  show wpAny _ _ (call (.builtin "list.__getattribute__") [.ref x, .str name s.toks]) _ _ _
  refine call_dom (s := { s with toks := s.toks + 1 }) (n := "__getattribute__") (.inl (by decide +kernel)) (by decide +kernel) (Y.sub X I) (PySem.F.args_list_getattribute_2 _ _) (by decide +kernel) PySem.F.entry_list_ga ?_
  show wpAny _ _ (typeOf (.ref x) >>= fun tp => Builtin.ObjectAttr.find (.ref x) tp name >>= fun r => _) _ _ _
  refine wpAny_bind (L0.here (s := { s with toks := s.toks + 1 }) (wpAny_bind (L3.here (s := { s with toks := s.toks + 1 }) ?_)))
  refine wpAny_pure ?_
  show wpAny _ _ (handedOut v) _ _ _
  rw [handedOut_of hh]
  exact wpAny_pure h

theorem methL {f tf : Value} {pl : Sem Bool} {Q : Value × List Value → Shared → Prop} (F : Fr h₀ L s.heap m) (X₀ : K.In h₀) (Y : LC K C) (I : PySem.W.InstAt s.heap x ox C od)
    (hf : findIn K (.ref C) name = some (some f)) (ht : Looks M s.heap (typeOf f) tf) (hk : (tf != .type "function" && tf != .type "method_descriptor" && tf != .type "wrapper_descriptor") = false) (hs : shadowIn od name = some false)
    (h : Q (f, [.ref x]) s) : wpAny M A (getMethod (.ref x) name pl) Q E s := by
  have X := X₀.keeps F.keep
  unfold getMethod specialOf
  refine wpAny_bind (wpAny_bind (I.type.here ((looks_findIn X Y.getattribute).here ?_)))
  dsimp only
  rw [canon_list_getattribute, if_neg Bool.false_ne_true]
  refine wpAny_bind (wpAny_bind (I.type.here ((looks_findIn X Y.getattr).here ?_)))
  refine wpAny_bind (wpAny_bind (I.type.here ((looks_findIn X hf).here (wpAny_bind (ht.here ?_)))))
  rw [hk, if_neg Bool.false_ne_true]
  refine wpAny_bind (wpAny_loadPart I.at_ ?_)
  have hd := I.dict
  cases e : ox.dict with
  | none => exact wpAny_bind (wpAny_rule (wpAny_pure h))
  | some dx =>
    cases od with
    | none => rw [e] at hd; exact hd.elim
    | some o =>
      rw [e] at hd
      obtain ⟨r, a, b⟩ := Option.map_eq_some_iff.mp hs
      refine wpAny_bind (wpAny_bind (wpAny_loadPart hd ?_))
      rw [nsLook_of a]
      refine wpAny_pure ?_
      rw [b]
      exact wpAny_bind (wpAny_rule (wpAny_pure h))

/-- a method that the text defines -/
theorem methL_fn {es : List DictEntry} {pl : Sem Bool} {f : Addr} {Q : Value × List Value → Shared → Prop} (F : Fr h₀ L s.heap m) (X₀ : K.In h₀) (Y : LC K C) (I : PySem.W.InstAt s.heap x ox C (some (dictOf es n)))
    (hf : findIn K (.ref C) name = some (some (.ref f))) (ht : isFn K (.ref f) = true) (hl : PySem.W.getL name es = some none) (h : Q (.ref f, [.ref x]) s) : wpAny M A (getMethod (.ref x) name pl) Q E s :=
  methL F X₀ Y I hf (looks_typeIn (X₀.keeps F.keep) (beq_iff_eq.mp ht)) (by decide +kernel) (by show (lookIn name (dictOf es n)).map _ = _; rw [lookIn_dict, hl]; rfl) h

/-- a method of list -/
theorem methL_of {es : List DictEntry} {pl : Sem Bool} {id : String} {Q : Value × List Value → Shared → Prop} (F : Fr h₀ L s.heap m) (X₀ : K.In h₀) (Y : LC K C) (I : PySem.W.InstAt s.heap x ox C (some (dictOf es n)))
    (hf : findIn K (.ref C) name = some (some (.builtin id))) (ht : typeOf (.builtin id) = pure (.type "method_descriptor")) (hl : PySem.W.getL name es = some none) (h : Q (.builtin id, [.ref x]) s) : wpAny M A (getMethod (.ref x) name pl) Q E s :=
  methL F X₀ Y I hf (Looks.of_pure ht) (by decide +kernel) (by show (lookIn name (dictOf es n)).map _ = _; rw [lookIn_dict, hl]; rfl) h
end
end PartD7

section PartD8
open PySem PySem.Calls PySem.W PyProof.Rows Builtin
set_option maxRecDepth 100000
set_option maxHeartbeats 4000000
theorem lt_ne {d : Addr} {l full : List (Addr × Obj)} (h : ∀ p ∈ full, p.1 < d) (hs : ∀ p ∈ l, p ∈ full) : ∀ p ∈ l, p.1 ≠ d := fun p hp => Nat.ne_of_lt (h p (hs p hp))



noncomputable abbrev loos : List PySem.Str := looseW hd.view_39 [PySem.Str.ofString "Problem", PySem.Str.ofString "BacktrackingSolver", PySem.Str.ofString "Unassigned", PySem.Str.ofString "Constraint", PySem.Str.ofString "FunctionConstraint"]
/-- the ground of a call from the law's own frame -/
structure Gd (w : World) (h₀ : Heap) (env : Env) (L : Addr) (mg mb : PySem.Str → Option Value) (mean : ExcName → Option Value) : Prop where
  B : Below callerA h₀ [] h₀
  X : (hd.heap_1 w.params).In h₀
  T : Top hd.view_39 loos mean mg mb h₀
  hf : env.frame = some L
  hk : env.scope.kind = .function

theorem compEnd_at {h₀ : Heap} {L I C D : Addr} {m : PySem.Str → Option Value} {s₁ : Shared} {oI oC oD : Obj} {S : List (Addr × Obj) → Prop} {rest : Value → List (Addr × Obj) → Prop} {y : Value} {h' : Heap} {tk : Nat} {news' : List (Addr × Obj)}
    (F : Fr h₀ L h' m) (N : News h₀ L h' ((I, oI) :: (C, oC) :: (D, oD) :: news')) (off : LCg.Off3 I C D news') (hS : S news') (r : rest y news') : LCg.CompEnd h₀ L m s₁ I oI C oC D oD S rest y { s₁ with heap := h', toks := tk } :=
  ⟨h', tk, news', rfl, F, N, off, hS, r⟩

theorem newsSub {g h : Heap} {L : Addr} {news news' : List (Addr × Obj)} (N : News g L h news) (hs : ∀ p ∈ news', p ∈ news) : News g L h news' := fun p hp => N p (hs p hp)

theorem sorted_one : ∀ {a b : List Int}, a.Perm b → a.Pairwise (· ≤ ·) → b.Pairwise (· ≤ ·) → a = b
  | [], b, p, _, _ => (p.nil_eq)
  | x :: a, [], p, _, _ => absurd p.length_eq (by simp)
  | x :: a, y :: b, p, oa, ob => by
    have h1 : x ≤ y := by
      rcases List.mem_cons.mp (p.mem_iff.mpr (.head _)) with e | e
      · exact Int.le_of_eq e.symm
      · exact (List.pairwise_cons.mp oa).1 y e
    have h2 : y ≤ x := by
      rcases List.mem_cons.mp (p.mem_iff.mp (.head _)) with e | e
      · exact Int.le_of_eq e.symm
      · exact (List.pairwise_cons.mp ob).1 x e
    have e : x = y := Int.le_antisymm h1 h2
    subst e
    rw [sorted_one (List.perm_cons x |>.mp p) (List.pairwise_cons.mp oa).2 (List.pairwise_cons.mp ob).2]

theorem alike_ne {ns ms a b : List Int} (hp : ns.Perm ms) (hne : ¬ a = b) (p1 : a.Perm ns) (p2 : b.Perm ms) (o1 : a.Pairwise (· ≤ ·)) (o2 : b.Pairwise (· ≤ ·)) : False :=
  hne (sorted_one ((p1.trans hp).trans p2.symm) o1 o2)
theorem alike_len {vs : List Value} {ns ms : List Int} (hp : ns.Perm ms) (q : vs.length = ns.length) (h : (vs.length : Int) ≠ ms.length) : False := by
  have := hp.length_eq
  omega
theorem alike_truth {vs : List Value} {ns ms : List Int} (hp : ns.Perm ms) (q : vs.length = ns.length) (h : (decide (vs.length ≠ 0) != !decide (ms = [])) = true) : False := by
  have e := hp.length_eq
  cases ms with
  | nil => simp at e; simp [q, e] at h
  | cons a r => simp at e; simp [q, e] at h
theorem alike_fold {ns ms : List Int} (hp : ns.Perm ms) (l : List Int) :
    decide (List.foldl (fun l' k' => if ¬(ns.any fun x => x == k') = ms.any fun x => x == k' then l' ++ [k'] else if ((ns.any fun x => x == k') != ms.any fun x => x == k') = false then l' else l') [] l = []) = true := by
  have e : ∀ k, (ns.any fun x => x == k) = ms.any fun x => x == k := fun k => hp.any_eq
  have f : ∀ l : List Int, List.foldl (fun l' k' => if ¬(ns.any fun x => x == k') = ms.any fun x => x == k' then l' ++ [k'] else if ((ns.any fun x => x == k') != ms.any fun x => x == k') = false then l' else l') ([] : List Int) l = [] := by
    intro l
    induction l with
    | nil => rfl
    | cons a r ih => rw [List.foldl_cons, if_neg (by simp [e]), if_pos (by simp [e])]; exact ih
  exact decide_eq_true (f l)

/-- the object's own dict -/
abbrev desOf (ha sa : Addr) (h1 h2 : Int) (t1 t2 : Tok) : List DictEntry := [⟨h1, .str (PySem.Str.ofString "_hidden") t1, .ref ha⟩, ⟨h2, .str (PySem.Str.ofString "_states") t2, .ref sa⟩]
end PartD8

section PartD9
open PySem PySem.Calls PySem.W PyProof.Rows Builtin
set_option maxRecDepth 100000
set_option maxHeartbeats 4000000
section
variable {prog : Program} {w : World} {M : Model} {A : Around} {E : Value → Shared → Prop} {s : Shared} {K : Frag} {x C dx L D : Addr} {h₀ : Heap} {m : PySem.Str → Option Value} {news news' : List (Addr × Obj)} {od : Obj} {items : Array Value} {n : Nat}

theorem pop_snoc {p : List Value} {y : Value} {Q : Value → Shared → Prop} (F : Fr h₀ L s.heap m) (N : News h₀ L s.heap news) (U : Upd D (W.listOf (p ++ [y]).toArray n) (W.listOf p.toArray (n + 1)) news news')
    (hz : p.length + 1 ≤ sizeLine) (h : ∀ h', Fr h₀ L h' m → News h₀ L h' news' → Q y { s with heap := h' }) : wpAny (model prog w) A (call (.builtin "list.pop") [.ref D]) Q E s :=
  kl_pop F N (by simpa using kpa_last y p) U (by simpa using hz) h

theorem nx_le (xs ys : Array Value) (n : Nat) : nx xs ys n = n ∨ nx xs ys n = n + 1 := by unfold nx; split <;> simp

theorem extend_domK {b : Addr} {oi : Obj} {vs ws : List Value} {ni : Nat} {Q : Value → Shared → Prop} (F : Fr h₀ L s.heap m) (X₀ : K.In h₀) (N : News h₀ L s.heap news) (Y : LC K C)
    (hd : (dx, od) ∈ news) (U : Upd x (domObj C dx vs.toArray n) (domObj C dx (vs ++ ws).toArray (nx vs.toArray (vs ++ ws).toArray n)) news news')
    (hb : s.heap.get? b = some oi) (hc : oi.cls = .type "list" ∨ oi.cls = .type "tuple") (hs : oi.data = .seq ws.toArray ni) (hz : vs.length + ws.length ≤ 1000)
    (h : ∀ h', Fr h₀ L h' m → News h₀ L h' news' → Q .none { s with heap := h' }) : wpAny (model prog w) A (call (.builtin "list.extend") [.ref x, .ref b]) Q E s := by
  have X := X₀.keeps F.keep
  have hx := updMem U
  have hx' := (N _ hx).1
  have I := instD N hx hd
  refine call_dom (n := "extend") (.inr (by decide +kernel)) (by decide +kernel) (Y.sub X I) (PySem.F.args_list_extend_2 _ _) (by decide +kernel) PySem.F.entry_list_extend ?_
  show wpAny _ _ (Builtin.List.listExtendWith (.ref x) (.ref b) .none) _ _ _
  unfold Builtin.List.listExtendWith
  obtain ⟨oc, odd, odt, osl⟩ := oi
  dsimp only at hc hs hb
  subst hs
  refine wpAny_bind ((show Looks (model prog w) s.heap (typeOf (.ref b)) oc from (Looks.ld hb).andThen .now).here ?_)
  have hcond : (List.listSameRef (.ref x) (.ref b) || oc == .type "list" || oc == .type "tuple") = true := by
    rcases hc with rfl | rfl
    · simp
    · simp
  rw [if_pos hcond]
  refine wpAny_bind (wpAny_bind (wpAny_seqItems hb rfl (wpAny_pure ?_)))
  refine wpAny_bind (wpAny_bind (wpAny_seqItems hx' rfl (wpAny_pure ?_)))
  rw [if_neg (by rw [Bool.and_eq_true]; rintro ⟨_, z⟩; unfold Builtin.List.listTooLong at z; simp only [List.size_toArray, decide_eq_true_eq, sizeLine_eq] at z; omega)]
  obtain ⟨F1, N1⟩ := updK (f := Obj.mapSeq fun y => y ++ ws.toArray) F N U (by rw [dom_mapSeq]; simp) rfl
  exact wpAny_bind (wpAny_updateSeq hx' rfl (wpAny_pure (h _ F1 N1)) (hz := by rw [List.size_toArray, sizeLine_eq]; omega) (_hz' := by rw [Array.size_append, List.size_toArray, List.size_toArray, sizeLine_eq]; omega))

theorem pick_tail {hs : List Value} {y : Int} (h : y < 0) : slicePick hs.toArray (some y) none none = (hs.drop (hs.length - (-y).toNat)).toArray := by
  have e : sliceBounds (some y) none none hs.toArray.size = (((hs.toArray.size - (-y).toNat : Nat) : Int), ((hs.toArray.size : Nat) : Int), 1) := by
    simp only [sliceBounds, Option.getD_none, show (1 : Int) > 0 by decide, if_true, if_pos h]
    congr 1
    omega
  rw [kmk_pick_nat _ e]
  show ((hs.drop (hs.toArray.size - (-y).toNat)).take _).toArray = _
  rw [List.size_toArray, List.take_of_length_le (by rw [List.length_drop]; omega)]

theorem slice_tailK {value slice : PySem.Expr} {l : Addr} {hs : List Value} {y : Int} {tk : Tok} {c : Nat} {Q : Value → Shared → Prop} (F : Fr h₀ L s.heap m) (N : News h₀ L s.heap news) (hm : (l, W.listOf hs.toArray c) ∈ news) (hy : y < 0) (hz : hs.length ≤ 1000)
    (h : ∀ D h', Fr h₀ L h' m → News h₀ L h' ((D, W.listOf (hs.drop (hs.length - (-y).toNat)).toArray 0) :: news) → (∀ p ∈ news, p.1 < D) → Q (.ref D) { s with heap := h' })
    (hs' : subscripted slice false (.ref l) (.ref s.heap.objs.size) = operate [.ref s.heap.objs.size, .ref l] (getItem (.ref l) (.ref s.heap.objs.size))) (ht : ∀ r, letTemporaryGo value (.ref l) r = pure ()) :
    wpAny (model prog w) A (subscriptTail value slice (.ref l) (.ref s.heap.objs.size)) Q E { s with heap := s.heap.push { cls := .type "slice", data := .fields #[.int y tk, .none, .none] } } :=
  kmk_slice F N (News.isList N hm) (.int _ _) .none (fun D h' F' N' l1 => h D h' F' (by rw [← pick_tail hy]; exact N') l1) hs' ht (by rw [List.size_toArray, sizeLine_eq]; omega)
end
end PartD9

section PartD10
open PySem PySem.Calls PySem.W PyProof.Rows Builtin
set_option maxRecDepth 100000
set_option maxHeartbeats 4000000
section
variable {prog : Program} {w : World} {M : Model} {A : Around} {E : Value → Shared → Prop} {s : Shared} {K : Frag} {x C dx L D : Addr} {h₀ : Heap} {m : PySem.Str → Option Value} {news news' : List (Addr × Obj)} {od : Obj} {items : Array Value} {n : Nat}

def sel (start stop step : Int) (i : Nat) : Bool :=
  if step > 0 then start ≤ i && i < stop && (i - start) % step == 0
  else stop < i && i ≤ start && (start - i) % (-step) == 0
def cutOut (start stop : Int) (xs : Array Value) : Array Value := (xs.toList.zipIdx.filterMap fun (x, k) => if sel start stop 1 k then none else some x).toArray

theorem cut_tail (a : Nat) : ∀ (l : List Value) (k N : Nat), k + l.length ≤ N → (l.zipIdx k).filterMap (fun (p : Value × Nat) => if sel (a : Int) (N : Int) 1 p.2 then none else some p.1) = l.take (a - k)
  | [], k, N, _ => by simp
  | y :: l, k, N, h => by
    rw [List.length_cons] at h
    rw [List.zipIdx_cons, List.filterMap_cons]
    have ih := cut_tail a l (k + 1) N (by omega)
    by_cases q : a ≤ k
    · have e : sel (a : Int) (N : Int) 1 k = true := by
        unfold sel
        rw [if_pos (by decide)]
        simp only [Int.emod_one, Bool.and_eq_true, decide_eq_true_eq, beq_self_eq_true, and_true]
        omega
      simp only [e, if_true]
      rw [ih]
      have z1 : a - (k + 1) = 0 := by omega
      have z2 : a - k = 0 := by omega
      rw [z1, z2]; rfl
    · have e : sel (a : Int) (N : Int) 1 k = false := by
        unfold sel
        rw [if_pos (by decide)]
        rw [Bool.eq_false_iff]
        simp only [Int.emod_one, ne_eq, Bool.and_eq_true, decide_eq_true_eq, beq_self_eq_true, and_true]
        omega
      simp only [e, Bool.false_eq_true, if_false]
      rw [ih]
      have z : a - k = (a - (k + 1)) + 1 := by omega
      rw [z, List.take_succ_cons]
theorem cutOut_eq (a : Nat) (hs : List Value) : cutOut (a : Int) (hs.length : Int) hs.toArray = (hs.take a).toArray := by
  unfold cutOut
  have := cut_tail a hs 0 hs.length (by omega)
  rw [Nat.sub_zero] at this
  rw [← this]

theorem del_sliceK {l : Addr} {hs : List Value} {vl : Value} {lo : Option Int} {a c : Nat} {Q : Unit → Shared → Prop} (F : Fr h₀ L s.heap m) (N : News h₀ L s.heap news) (pl : IsPart vl lo)
    (ha : sliceBounds lo none none hs.length = ((a : Int), (hs.length : Int), 1)) (U : Upd l (W.listOf hs.toArray c) (W.listOf (hs.take a).toArray (nx hs.toArray (hs.take a).toArray c)) news news') (hz : hs.length ≤ 1000)
    (h : ∀ h', Fr h₀ L h' m → News h₀ L h' news' → Q () { s with heap := h' }) :
    wpAny (model prog w) A (delItem (.ref l) (.ref s.heap.objs.size)) Q E { s with heap := s.heap.push { cls := .type "slice", data := .fields #[vl, .none, .none] } } := by
  have F1 := F.push { cls := .type "slice", data := .fields #[vl, .none, .none] }
  have N1 : News h₀ L (s.heap.push { cls := .type "slice", data := .fields #[vl, .none, .none] }) news := newsSub (N.push F { cls := .type "slice", data := .fields #[vl, .none, .none] } rfl) fun p hp => .tail _ hp
  have hl := (N1 _ (updMem U)).1
  have hT : ({ s with heap := s.heap.push { cls := .type "slice", data := .fields #[vl, .none, .none] } } : Shared).TypeIs (.ref l) "list" := ⟨_, hl, rfl⟩
  have hos : (s.heap.push { cls := .type "slice", data := .fields #[vl, .none, .none] }).get? s.heap.objs.size = some { cls := .type "slice", data := .fields #[vl, .none, .none] } := Heap.get?_push_size _ rfl
  have hTs : ({ s with heap := s.heap.push { cls := .type "slice", data := .fields #[vl, .none, .none] } } : Shared).TypeIs (.ref s.heap.objs.size) "slice" := ⟨_, hos, rfl⟩
  refine wpAny_delItem_slot hT (by decide) PySem.F.slot_list_delitem (wpAny_call_entry PySem.F.slot_list_delitem hT PySem.F.entry_list_delitem ?_ (PySem.F.args_list_delitem_2 _ _))
  show wpAny _ _ (Builtin.List.listSubscript? (.ref s.heap.objs.size) >>= _) _ _ _
  refine wpAny_bind ?_
  unfold Builtin.List.listSubscript?
  refine wpAny_bind (wpAny_specialOf hTs slice_no_index ?_)
  simp only [Option.isNone_none, if_true]
  refine wpAny_pure ?_
  show wpAny _ _ (typeOf (.ref s.heap.objs.size) >>= _) _ _ _
  refine wpAny_bind (wpAny_typeOf hTs ?_)
  rw [if_neg (by decide)]
  rw [listSliceParts_eq]
  refine wpAny_bind (wpAny_bind (wpAny_field hos rfl (x := .none) rfl (wpAny_bind (wpAny_listPart .none ?_))))
  rw [if_neg (show ¬ ((rawPart none == rawInt 0) = true) from Bool.false_ne_true)]
  refine wpAny_bind (wpAny_field hos rfl (x := vl) rfl (wpAny_bind (wpAny_listPart pl ?_)))
  refine wpAny_bind (wpAny_field hos rfl (x := .none) rfl (wpAny_bind (wpAny_listPart .none (wpAny_pure ?_))))
  refine wpAny_bind (m := Builtin.List.listItems (.ref l)) ?_
  unfold Builtin.List.listItems
  refine wpAny_bind (wpAny_seqItems hl rfl (wpAny_pure ?_))
  refine wpAny_bind (wpAny_of_eq (sliceIndices_raw lo none none hs.toArray.size (by simp)) ?_)
  rw [List.size_toArray, ha]
  show wpAny _ _ (rule "list.__delitem__.slice" >>= fun _ => updateSeq l (cutOut (a : Int) (hs.length : Int)) >>= fun _ => letGo _ >>= fun _ => ret .none) _ _ _
  refine wpAny_bind (wpAny_rule (wpAny_bind (wpAny_updateSeq hl rfl ?_ (hz := by rw [List.size_toArray, sizeLine_eq]; omega) (_hz' := ?_))))
  · refine wpAny_bind (wpAny_letGo ?_)
    obtain ⟨F2, N2⟩ := updK (f := Obj.mapSeq (cutOut (a : Int) (hs.length : Int))) F1 N1 U (by rw [list_mapSeq, cutOut_eq]) rfl
    exact wpAny_pure ⟨_, rfl, h _ F2 N2⟩
  · rw [cutOut_eq, List.size_toArray, List.length_take, sizeLine_eq]
    omega

theorem del_tailK {l : Addr} {hs : List Value} {y : Int} {tk : Tok} {c : Nat} {Q : Unit → Shared → Prop} (F : Fr h₀ L s.heap m) (N : News h₀ L s.heap news) (hy : y < 0)
    (U : Upd l (W.listOf hs.toArray c) (W.listOf (hs.take (hs.length - (-y).toNat)).toArray (nx hs.toArray (hs.take (hs.length - (-y).toNat)).toArray c)) news news') (hz : hs.length ≤ 1000)
    (h : ∀ h', Fr h₀ L h' m → News h₀ L h' news' → Q () { s with heap := h' }) :
    wpAny (model prog w) A (delItem (.ref l) (.ref s.heap.objs.size)) Q E { s with heap := s.heap.push { cls := .type "slice", data := .fields #[.int y tk, .none, .none] } } := by
  refine del_sliceK F N (.int y tk) ?_ U hz h
  simp only [sliceBounds, Option.getD_none, show (1 : Int) > 0 by decide, if_true, if_pos hy]
  congr 1
  omega
theorem del_allK {l : Addr} {hs : List Value} {c : Nat} {Q : Unit → Shared → Prop} (F : Fr h₀ L s.heap m) (N : News h₀ L s.heap news)
    (U : Upd l (W.listOf hs.toArray c) (W.listOf #[] (nx hs.toArray #[] c)) news news') (hz : hs.length ≤ 1000)
    (h : ∀ h', Fr h₀ L h' m → News h₀ L h' news' → Q () { s with heap := h' }) :
    wpAny (model prog w) A (delItem (.ref l) (.ref s.heap.objs.size)) Q E { s with heap := s.heap.push { cls := .type "slice", data := .fields #[.none, .none, .none] } } := by
  refine del_sliceK (a := 0) F N .none ?_ U hz h
  simp only [sliceBounds, Option.getD_none, show (1 : Int) > 0 by decide, if_true]
  congr 1
end
end PartD10

section PartD11
open PySem PySem.Calls PySem.W PyProof.Rows Builtin
set_option maxRecDepth 100000
set_option maxHeartbeats 4000000
theorem pop_more {vs hs : List Value} {ns ks : List Int} {q : Int} (i1 : IntsAre vs ns) (i2 : IntsAre hs ks) :
    IntsAre (vs ++ hs.drop (hs.length - (- -(q - (vs.length : Int))).toNat)) (ns ++ ks.drop (ks.length - (q - (ns.length : Int)).toNat)) := by
  rw [i1.length, i2.length, Int.neg_neg]
  exact IntsAre.append i1 (i2.drop _)
theorem pop_less {vs hs : List Value} {ns ks : List Int} {q : Int} (i1 : IntsAre vs ns) (i2 : IntsAre hs ks) :
    IntsAre (hs.take (hs.length - (- -(q - (vs.length : Int))).toNat)) (ks.take (ks.length - (q - (ns.length : Int)).toNat)) := by
  rw [i1.length, i2.length, Int.neg_neg]
  exact i2.take _
theorem pop_same {vs hs : List Value} {ns ks : List Int} {q : Int} (i1 : IntsAre vs ns) (i2 : IntsAre hs ks) (hq : q - (vs.length : Int) = 0) :
    IntsAre vs (ns ++ ks.drop (ks.length - (q - (ns.length : Int)).toNat)) ∧ IntsAre hs (ks.take (ks.length - (q - (ns.length : Int)).toNat)) := by
  rw [i1.length] at hq
  rw [hq]
  simp only [Int.toNat_zero, Nat.sub_zero, List.drop_length, List.append_nil, List.take_length]
  exact ⟨i1, i2⟩
end PartD11

section PartD12
open PySem PySem.Calls PySem.W PyProof.Rows Builtin
set_option maxRecDepth 100000
set_option maxHeartbeats 4000000
section
variable {prog : Program} {w : World} {M : Model} {A : Around} {E : Value → Shared → Prop} {s : Shared} {K : Frag} {x C dx L D : Addr} {h₀ : Heap} {m : PySem.Str → Option Value} {news news' : List (Addr × Obj)} {od : Obj} {items : Array Value} {n : Nat}

theorem remove_loop_dom (e : Value → Bool) {v : Value} (he : ∀ y, y ∈ items → MeetsSeq.EqGives y v (e y)) {R : Result → Shared → Prop} (j : Nat) (hj : j < items.size) (hit : e items[j] = true)
    (hno : ∀ m (hm : m < items.size), m < j → e items[m] = false) (hz : items.size ≤ sizeLine) (k : Nat) :
    ∀ (i : Nat) (s : Shared), j - i = k → i ≤ j → SeqIs s.heap x items → R (.ok (.ret .none)) { s with heap := s.heap.update x (Obj.mapSeq fun xs => xs.eraseIdxIfInBounds j) } →
      wpAny (model prog w) A.in1 (Builtin.«list.remove.loop» ⟨[.ref x, v, rawInt i], []⟩) (fun fin s' => match fin with | .done f => R (.ok f) s' | .again c' => c'.quiet = true ∧ codeAny (model prog w) A c' R s') (fun e s' => R (.error e) s') s := by
  induction k with
  | zero =>
    intro i s hk hij hs hR
    obtain rfl : i = j := by omega
    obtain ⟨o, n, ho, hd⟩ := hs
    show wpAny _ _ (Builtin.List.listItems (.ref x) >>= _) _ _ _
    refine wpAny_bind (wpAny_bind (wpAny_seqItems ho hd (wpAny_pure ?_)))
    have hi : items[((i : Nat) : Int).toNat]? = some items[i] := by simp [hj]
    rw [hi]
    refine wpAny_bind (he _ (Array.getElem_mem hj) prog w _ _ _ _ ?_)
    rw [hit, if_pos rfl]
    have hz' : (items.eraseIdxIfInBounds i).size ≤ sizeLine + 1 := Nat.le_trans (MeetsSeq.size_erased items _) (Nat.le_succ_of_le hz)
    have hii : ((i : Nat) : Int).toNat = i := Int.toNat_natCast i
    show wpAny _ _ (updateSeq x (fun xs => xs.eraseIdxIfInBounds ((i : Nat) : Int).toNat) >>= fun _ => ret .none) _ _ _
    rw [hii]
    exact wpAny_bind (wpAny_updateSeq ho hd (wpAny_pure hR) (hz := hz) (_hz' := hz'))
  | succ k ih =>
    intro i s hk hij hs hR
    have hs' := hs
    obtain ⟨o, n, ho, hd⟩ := hs
    have hlt : i < items.size := by omega
    show wpAny _ _ (Builtin.List.listItems (.ref x) >>= _) _ _ _
    refine wpAny_bind (wpAny_bind (wpAny_seqItems ho hd (wpAny_pure ?_)))
    have hi : items[((i : Nat) : Int).toNat]? = some items[i] := by simp [hlt]
    rw [hi]
    refine wpAny_bind (he _ (Array.getElem_mem hlt) prog w _ _ _ _ ?_)
    rw [hno i hlt (by omega)]
    have hc : ((i : Int) + 1) = ((i + 1 : Nat) : Int) := by push_cast; rfl
    rw [if_neg Bool.false_ne_true, hc]
    refine wpAny_pure ⟨plainId_quiet MeetsSeq.plain_remove_loop _, codeAny_builtin MeetsSeq.entry_remove_loop ?_⟩
    rw [Around.under_plainId MeetsSeq.plain_remove_loop _]
    exact ih (i + 1) s (by omega) (by omega) hs' hR

theorem remove_loop_out (e : Value → Bool) {v : Value} (he : ∀ y, y ∈ items → MeetsSeq.EqGives y v (e y)) {R : Result → Shared → Prop} (hh : A.handled = none)
    (hno : ∀ m (hm : m < items.size), e items[m] = false) (k : Nat) :
    ∀ (i : Nat) (s : Shared), items.size - i = k → SeqIs s.heap x items → (∀ h' tk e, Heap.NewExc s.heap h' e "ValueError" → R (.error (.ref e)) { s with heap := h', toks := tk }) →
      wpAny (model prog w) A.in1 (Builtin.«list.remove.loop» ⟨[.ref x, v, rawInt i], []⟩) (fun fin s' => match fin with | .done f => R (.ok f) s' | .again c' => c'.quiet = true ∧ codeAny (model prog w) A c' R s') (fun e s' => R (.error e) s') s := by
  induction k with
  | zero =>
    intro i s hk hs hR
    obtain ⟨o, n, ho, hd⟩ := hs
    show wpAny _ _ (Builtin.List.listItems (.ref x) >>= _) _ _ _
    refine wpAny_bind (wpAny_bind (wpAny_seqItems ho hd (wpAny_pure ?_)))
    have hi : items[((i : Nat) : Int).toNat]? = none := by simp; omega
    rw [hi]
    have hh1 : A.in1.handled = none := hh
    dsimp only
    exact wpAny_bind (wpAny_rule (by exact_raiseError plainExc_ValueError hh1 hR))
  | succ k ih =>
    intro i s hk hs hR
    have hs' := hs
    obtain ⟨o, n, ho, hd⟩ := hs
    have hlt : i < items.size := by omega
    show wpAny _ _ (Builtin.List.listItems (.ref x) >>= _) _ _ _
    refine wpAny_bind (wpAny_bind (wpAny_seqItems ho hd (wpAny_pure ?_)))
    have hi : items[((i : Nat) : Int).toNat]? = some items[i] := by simp [hlt]
    rw [hi]
    refine wpAny_bind (he _ (Array.getElem_mem hlt) prog w _ _ _ _ ?_)
    rw [hno i hlt]
    have hc : ((i : Int) + 1) = ((i + 1 : Nat) : Int) := by push_cast; rfl
    rw [if_neg Bool.false_ne_true, hc]
    refine wpAny_pure ⟨plainId_quiet MeetsSeq.plain_remove_loop _, codeAny_builtin MeetsSeq.entry_remove_loop ?_⟩
    rw [Around.under_plainId MeetsSeq.plain_remove_loop _]
    exact ih (i + 1) s (by omega) hs' hR

/-- the place of a number among the items -/
theorem ints_place {vs : List Value} {ns : List Int} {k : Int} (hi : IntsAre vs ns) : k ∈ ns →
    ∃ j, ∃ hj : j < vs.length, isInt k vs[j] = true ∧ (∀ m (hm : m < vs.length), m < j → isInt k vs[m] = false) ∧ IntsAre (vs.eraseIdx j) (ns.erase k) := by
  induction hi with
  | nil => intro h; cases h
  | @cons a t vs ns hi ih =>
    intro h
    by_cases e : a = k
    · subst e
      refine ⟨0, by simp, by simp [isInt], fun m _ h => absurd h (Nat.not_lt_zero _), ?_⟩
      rw [List.erase_cons_head, List.eraseIdx_cons_zero]
      exact hi
    · have hk : k ∈ ns := by
        rcases List.mem_cons.mp h with h | h
        · exact absurd h.symm e
        · exact h
      obtain ⟨j, hj, h1, h2, h3⟩ := ih hk
      refine ⟨j + 1, by simpa using hj, by simpa using h1, fun m hm hlt => ?_, ?_⟩
      · cases m with
        | zero => simp [isInt, e]
        | succ m => simpa using h2 m (by simpa using hm) (by omega)
      · rw [List.eraseIdx_cons_succ, List.erase_cons_tail (by simpa using e)]
        exact .cons _ _ h3
theorem ints_missing {vs : List Value} {ns : List Int} {k : Int} (hi : IntsAre vs ns) (h : k ∉ ns) : ∀ m (hm : m < vs.length), isInt k vs[m] = false := by
  intro m hm
  have e := any_isInt k hi
  have : ns.any (· == k) = false := by
    rw [List.any_eq_false]
    intro y hy
    simp only [beq_iff_eq]
    rintro rfl
    exact h hy
  rw [this, List.any_eq_false] at e
  simpa using e vs[m] (List.getElem_mem hm)

/-- the first of the wanted numbers taken out -/
def RemAt (k : Int) (vs vs' : List Value) : Prop := ∃ j, ∃ hj : j < vs.length, isInt k vs[j] = true ∧ (∀ m (hm : m < vs.length), m < j → isInt k vs[m] = false) ∧ vs' = vs.eraseIdx j
theorem remAt {vs : List Value} {ns : List Int} {k : Int} (hi : IntsAre vs ns) (h : k ∈ ns) : ∃ vs', RemAt k vs vs' ∧ IntsAre vs' (ns.erase k) := by
  obtain ⟨j, hj, h1, h2, h3⟩ := ints_place hi h
  exact ⟨_, ⟨j, hj, h1, h2, rfl⟩, h3⟩

theorem remove_domK {vs vs' : List Value} {ns : List Int} {k : Int} {t : Tok} {Q : Value → Shared → Prop} (F : Fr h₀ L s.heap m) (X₀ : K.In h₀) (N : News h₀ L s.heap news) (Y : LC K C)
    (hd : (dx, od) ∈ news) (hi : IntsAre vs ns) (hr : RemAt k vs vs') (U : Upd x (domObj C dx vs.toArray n) (domObj C dx vs'.toArray (nx vs.toArray vs'.toArray n)) news news') (hz : vs.length ≤ 1000)
    (h : ∀ h', Fr h₀ L h' m → News h₀ L h' news' → Q .none { s with heap := h' }) :
    wpAny (model prog w) A (call (.builtin "list.remove") [.ref x, .int k t]) Q E s := by
  have X := X₀.keeps F.keep
  have hx := updMem U
  have I := instD N hx hd
  obtain ⟨j, hj, h1, h2, rfl⟩ := hr
  refine call_dom (n := "remove") (.inr (by decide +kernel)) (by decide +kernel) (Y.sub X I) (PySem.F.args_list_remove_2 _ _) (by decide +kernel) PySem.F.entry_list_remove ?_
  show wpAny _ _ (again (.builtin "list.remove.loop" ⟨[.ref x, .int k t, rawInt 0], []⟩)) _ _ _
  refine wpAny_pure ⟨plainId_quiet MeetsSeq.plain_remove_loop _, codeAny_builtin MeetsSeq.entry_remove_loop ?_⟩
  rw [Around.under_plainId MeetsSeq.plain_remove_loop _]
  have hz' : vs.toArray.size ≤ sizeLine := by rw [List.size_toArray, sizeLine_eq]; omega
  refine remove_loop_dom (items := vs.toArray) (isInt k) (fun y hy => eq_isInt k t hi y (by simpa using hy)) j (by simpa using hj) (by simpa using h1) (fun m hm hlt => by simpa using h2 m (by simpa using hm) hlt) hz' _ 0 s rfl (Nat.zero_le _) ⟨_, _, (N _ hx).1, rfl⟩ ?_
  obtain ⟨F1, N1⟩ := updK (f := Obj.mapSeq fun y => y.eraseIdxIfInBounds j) F N U (by
    rw [dom_mapSeq]
    have e : vs.toArray.eraseIdxIfInBounds j = (vs.eraseIdx j).toArray := by
      apply Array.toList_inj.mp
      simp
    rw [e]) rfl
  exact h _ F1 N1

theorem remove_outK {vs : List Value} {ns : List Int} {k : Int} {t : Tok} {Q : Value → Shared → Prop} (hh : A.handled = none) (F : Fr h₀ L s.heap m) (X₀ : K.In h₀) (N : News h₀ L s.heap news) (Y : LC K C)
    (hx : (x, domObj C dx vs.toArray n) ∈ news) (hd : (dx, od) ∈ news) (hi : IntsAre vs ns) (hk : k ∉ ns)
    (hE : ∀ h' tk e, Heap.NewExc s.heap h' e "ValueError" → E (.ref e) { s with heap := h', toks := tk }) :
    wpAny (model prog w) A (call (.builtin "list.remove") [.ref x, .int k t]) Q E s := by
  have X := X₀.keeps F.keep
  have I := instD N hx hd
  refine call_dom (n := "remove") (.inr (by decide +kernel)) (by decide +kernel) (Y.sub X I) (PySem.F.args_list_remove_2 _ _) (by decide +kernel) PySem.F.entry_list_remove ?_
  show wpAny _ _ (again (.builtin "list.remove.loop" ⟨[.ref x, .int k t, rawInt 0], []⟩)) _ _ _
  refine wpAny_pure ⟨plainId_quiet MeetsSeq.plain_remove_loop _, codeAny_builtin MeetsSeq.entry_remove_loop ?_⟩
  rw [Around.under_plainId MeetsSeq.plain_remove_loop _]
  exact remove_loop_out (items := vs.toArray) (isInt k) (fun y hy => eq_isInt k t hi y (by simpa using hy)) hh (fun m hm => by simpa using ints_missing hi hk m (by simpa using hm)) _ 0 s rfl ⟨_, _, (N _ hx).1, rfl⟩ hE

theorem pop_empty_meets (l : Addr) (n : Nat) : Meets (Builtin.«list.pop» ⟨[.ref l], []⟩)
      (fun A R s => s.heap.get? l = some { cls := .type "list", dict := none, data := .seq #[] n, slots := #[] } ∧ raisesNew "IndexError" A R s) := by
  intro prog w A R s h
  obtain ⟨hp, g, d, tk, os⟩ := s; obtain ⟨hl, h⟩ := h
  wp_walk using wpAny_loadPart' hl
  exact_raiseError plainExc_IndexError h.1 h.2

theorem pop_emptyK {c : Nat} {Q : Value → Shared → Prop} (hh : A.handled = none) (N : News h₀ L s.heap news) (hl : (D, W.listOf #[] c) ∈ news)
    (hE : ∀ h' tk e, Heap.NewExc s.heap h' e "IndexError" → E (.ref e) { s with heap := h', toks := tk }) :
    wpAny (model prog w) A (call (.builtin "list.pop") [.ref D]) Q E s :=
  call_meets PySem.F.slot_list_pop ⟨_, (N _ hl).1, rfl⟩ PySem.F.entry_list_pop (PySem.F.args_list_pop_1 _) (pop_empty_meets D c) ⟨(N _ hl).1, hh, hE⟩
end
end PartD12

section PartD13
open PySem PySem.Calls PySem.W PyProof.Rows Builtin
set_option maxRecDepth 100000
set_option maxHeartbeats 4000000
section
variable {prog : Program} {w : World} {A₀ A : Around} {s : Shared} {base h₀ : Heap} {env : Env} {L : Addr} {m : PySem.Str → Option Value} {news : List (Addr × Obj)} {K : Frag} {p : Program} {loose : List PySem.Str} {mean : ExcName → Option Value} {mg mb : PySem.Str → Option Value}
    {R : Result → Shared → Prop} {name qual : PySem.Str} {params : Arguments} {body : List Stmt} {scope : Scope} {dV kV doc pm cdv ct oc : Value} {an od : Option Addr} {osl : Array (Option Value)} {f : Addr} {args : Args} {binds : List (PySem.Str × Value)}
/-- a def with a try in it, called out of any frame -/
theorem code_defSG (B : Below A₀ base [] h₀) (F : Fr h₀ L s.heap m) (X₀ : K.In h₀) (N : News h₀ L s.heap news) (T : Top p loose mean mg mb h₀) (hA : A.frames = some [env]) (hf : env.frame = some L) (hke : env.scope.kind = .function)
    (ho : K.lookup f = some ⟨oc, od, .func (fnOf name qual params body scope dV kV doc pm an cdv ct), osl⟩) (hcd : codeIn K cdv qual = true) (hroom : A.depth < recursionLimit)
    (hbind : BindsTo s (fnOf name qual params body scope dV kV doc pm an cdv ct) args binds) (hloc : ∀ y ∈ binds, scope.names.lookup y.1 = some .local)
    (h : ∀ g L' h₁, Fr h₀ L g m → Fr g L' h₁ (fun y => binds.reverse.lookup y) → News g L' h₁ news → Below A base [env] g → K.In g → Top p loose mean mg mb g → KtsDicts ([env].filterMap (·.frame)) g →
      wpAny (model prog w) (A.deeper (envOf qual scope L' f cdv)) (execs body (envOf qual scope L' f cdv))
        (fun fl s' => LeaveS0 ([env].filterMap (·.frame)) h₀ L m g R (match fl with | .ret v => v | _ => .none) s')
        (fun e s' => wpAny (model prog w) (A.deeper (envOf qual scope L' f cdv)) (leaving (envOf qual scope L' f cdv) e) (fun _ s'' => R (.error e) s'') (fun e' s'' => R (.error e') s'') s')
        { s with heap := h₁, toks := s.toks + binds.length })
    (hco : scope.isCoroutine = false) (hgen : scope.isGenerator = false) (hk : scope.kind = .function)
    (hcell : ∀ x ∈ scope.names, x.2 ≠ .cell) : codeAny (model prog w) A (.call (.ref f) args) R s := by
  have X := X₀.keeps F.keep
  refine codeAny_call_def (fd := fnOf name qual params body scope dV kV doc pm an cdv ct) (body := body) (binds := binds) hroom (X _ _ ho) rfl (T.nolimit.keeps F.keep) (codeRec_of X hcd) rfl hbind hcell hloc (fun h₁ hns hk₁ => ?_) hco hgen hk
  obtain ⟨FG, BG, st, _⟩ := groundX (R := R) B F N hA hf hke
  obtain ⟨oL, es, ep, hLg, hLd, hLk, hLf⟩ := FG.ns
  have hfs : [env].filterMap (·.frame) = [L] := by rw [List.filterMap_cons, hf]; rfl
  refine wpAny_mono (h _ s.heap.objs.size h₁ FG ⟨hns, fun b o e => hk₁ b o (of_hideAll _ e), Nat.le_of_eq (hideAll_size _ _)⟩
    (fun p hp => ⟨hk₁ _ _ (N p hp).1, Nat.ne_of_lt (Heap.lt_size (N p hp).1), hideAll_none _ (List.mem_map_of_mem hp)⟩) BG (X₀.keeps st) (T.keeps st) (fun b hb => by
      rw [hfs] at hb
      obtain rfl := List.mem_singleton.mp hb
      exact ⟨oL, es, ep, hLg, hLd⟩)) (fun fl s' hl => ?_) fun _ _ y => y
  obtain ⟨g', L', m', news', T', F', N', k⟩ := hl
  rw [hfs] at T'
  have nL₀ : h₀.get? L = none := kts_self F
  obtain ⟨sl, hs⟩ := T'.up hLg
  refine k ⟨⟨_, es, ep, F'.keep _ _ hs, hLd, hLk, hLf⟩, fun b o e => F'.keep b o (T'.other b o (st b o e) (fun q => by
    obtain rfl := List.mem_singleton.mp q
    rw [nL₀] at e
    cases e)), F.above⟩ fun p hp => ⟨(N' p hp).1, fun q => ?_, ?_⟩
  · have := (N' p hp).2.2; rw [q, hs] at this; cases this
  · cases q : h₀.get? p.1 with
    | none => rfl
    | some o =>
      obtain ⟨sl', hs'⟩ := T'.up (st _ _ q)
      have := (N' p hp).2.2
      rw [hs'] at this
      cases this
end
end PartD13

section PartD14
open PySem PySem.Calls PySem.W PyProof.Rows Builtin
set_option maxRecDepth 100000
set_option maxHeartbeats 4000000
/-- the place in the hidden ones where a taking back cuts -/
abbrev cutAt (D H : List Int) (q : Int) : Nat := H.length - (q - (D.length : Int)).toNat
/-- the saved states, the last saved one first: for each its length, and a list of its numbers -/
inductive Stk : List Int → List Int → List (Int × List Int) → Prop
  | nil {D H : List Int} : Stk D H []
  | cons {D H : List Int} {q : Int} {W : List Int} {st : List (Int × List Int)} (a : (D.length : Int) ≤ q) (b : q ≤ (D.length : Int) + (H.length : Int)) (c : W.Perm (D ++ H.drop (cutAt D H q)))
      (r : Stk (D ++ H.drop (cutAt D H q)) (H.take (cutAt D H q)) st) : Stk D H ((q, W) :: st)

theorem Stk.perm {D H : List Int} {st : List (Int × List Int)} (h : Stk D H st) : ∀ {D' : List Int}, D.Perm D' → Stk D' H st := by
  induction h with
  | nil => intro D' _; exact .nil
  | @cons D H q W st a b c r ih =>
    intro D' p
    have e := p.length_eq
    have ek : cutAt D' H q = cutAt D H q := by unfold cutAt; rw [e]
    refine .cons (by omega) (by omega) ?_ ?_
    · rw [ek]; exact c.trans (p.append_right _)
    · rw [ek]; exact ih (p.append_right _)

theorem Stk.push {D H M : List Int} {st : List (Int × List Int)} (h : Stk D H st) (p : M.Perm D) : Stk D H (((D.length : Nat), M) :: st) := by
  have e : cutAt D H ((D.length : Nat) : Int) = H.length := by unfold cutAt; omega
  refine .cons (by omega) (by omega) ?_ ?_
  · rw [e, List.drop_length, List.append_nil]; exact p
  · rw [e, List.drop_length, List.append_nil, List.take_length]; exact h

theorem Stk.hide {D H : List Int} {v : Int} {st : List (Int × List Int)} (h : Stk D H st) (hv : v ∈ D) : Stk (D.erase v) (H ++ [v]) st := by
  induction st generalizing D H with
  | nil => exact .nil
  | cons x st ih =>
    obtain ⟨q, W⟩ := x
    cases h with
    | cons a b c r =>
      have e := List.length_erase_of_mem hv
      have hp : 0 < D.length := List.length_pos_of_mem hv
      have e' : ((D.erase v).length : Int) = (D.length : Int) - 1 := by omega
      have ek : cutAt (D.erase v) (H ++ [v]) q = cutAt D H q := by
        unfold cutAt
        rw [e', List.length_append, List.length_singleton]
        omega
      have hk : cutAt D H q ≤ H.length := Nat.sub_le _ _
      have ed : (H ++ [v]).drop (cutAt D H q) = H.drop (cutAt D H q) ++ [v] := List.drop_append_of_le_length hk
      have et : (H ++ [v]).take (cutAt D H q) = H.take (cutAt D H q) := List.take_append_of_le_length hk
      have pp : (D ++ H.drop (cutAt D H q)).Perm (D.erase v ++ (H.drop (cutAt D H q) ++ [v])) := by
        refine ((List.perm_cons_erase hv).append_right _).trans ?_
        rw [List.cons_append, ← List.append_assoc]
        exact (List.perm_append_singleton v _).symm
      refine .cons (by omega) (by rw [List.length_append, List.length_singleton]; omega) ?_ ?_
      · rw [ek, ed]; exact c.trans pp
      · rw [ek, ed, et]; exact r.perm pp

/-- what holds behind each deed: the first numbers G; the domain's D; the hidden ones H; the saved ones st; the plain set's M -/
structure Good (G D H M : List Int) (st : List (Int × List Int)) : Prop where
  all : (D ++ H).Perm G
  held : M.Perm D
  stk : Stk D H st

section
variable {G D H M : List Int} {st : List (Int × List Int)}
theorem Good.lenD (g : Good G D H M st) : D.length ≤ G.length := by have := g.all.length_eq; rw [List.length_append] at this; omega
theorem Good.lenH (g : Good G D H M st) : H.length ≤ G.length := by have := g.all.length_eq; rw [List.length_append] at this; omega
theorem Good.lenM (g : Good G D H M st) : M.length ≤ G.length := by have := g.held.length_eq; have := g.lenD; omega
theorem Good.push (g : Good G D H M st) : Good G D H M (((D.length : Nat), M) :: st) := ⟨g.all, g.held, g.stk.push g.held⟩
theorem Good.hideIn {v : Int} (g : Good G D H M st) (hG : G.Nodup) (hv : v ∈ D) : Good G (D.erase v) (H ++ [v]) (M.filter (fun x => decide (x ≠ v))) st := by
  have pp : (D ++ H).Perm (D.erase v ++ (H ++ [v])) := by
    refine ((List.perm_cons_erase hv).append_right _).trans ?_
    rw [List.cons_append, ← List.append_assoc]
    exact (List.perm_append_singleton v _).symm
  have nd : D.Nodup := ((List.nodup_append.mp (g.all.nodup_iff.mpr hG)).1)
  refine ⟨pp.symm.trans g.all, ?_, g.stk.hide hv⟩
  have e : D.erase v = D.filter (fun x => decide (x ≠ v)) := by
    rw [nd.erase_eq_filter]
    congr 1
    funext x
    by_cases h : x = v <;> simp [h]
  rw [e]
  exact g.held.filter _
theorem Good.hideOut {v : Int} (g : Good G D H M st) (hv : v ∉ D) : M.filter (fun x => decide (x ≠ v)) = M := by
  rw [List.filter_eq_self]
  intro x hx
  simp only [decide_eq_true_eq]
  rintro rfl
  exact hv (g.held.mem_iff.mp hx)
theorem Good.pop {q : Int} {W : List Int} (g : Good G D H M ((q, W) :: st)) : Good G (D ++ H.drop (cutAt D H q)) (H.take (cutAt D H q)) W st := by
  cases g.stk with
  | cons a b c r =>
    refine ⟨?_, c, r⟩
    rw [List.append_assoc]
    have e : (D ++ H).Perm (D ++ (H.drop (cutAt D H q) ++ H.take (cutAt D H q))) := by
      refine List.Perm.append_left D ?_
      exact (List.perm_append_comm (l₁ := H.take _) (l₂ := H.drop _)) |> fun p => by rw [List.take_append_drop] at p; exact p
    exact e.symm.trans g.all
theorem Good.bounds {q : Int} {W : List Int} (g : Good G D H M ((q, W) :: st)) : (D.length : Int) ≤ q ∧ q ≤ (D.length : Int) + (H.length : Int) := by
  cases g.stk with
  | cons a b c r => exact ⟨a, b⟩
theorem Good.reset (g : Good G D H M st) : Good G (D ++ H) [] G [] := ⟨by rw [List.append_nil]; exact g.all, g.all.symm, .nil⟩
theorem Good.start (G : List Int) : Good G G [] G [] := ⟨by rw [List.append_nil], List.Perm.refl _, .nil⟩
theorem Good.same (g : Good G D H M st) : D.Perm M := g.held.symm
theorem Good.memIff (g : Good G D H M st) (v : Int) : v ∈ M ↔ v ∈ D := g.held.mem_iff
end

theorem fold_filter (p : Int → Prop) [DecidablePred p] : ∀ (l acc : List Int), l.foldl (fun l' k' => if p k' then l' ++ [k'] else l') acc = acc ++ l.filter (fun x => decide (p x))
  | [], acc => by simp
  | a :: r, acc => by
    rw [List.foldl_cons, fold_filter p r, List.filter_cons]
    by_cases h : p a
    · simp [h]
    · simp [h]
/-- the saved lists of the ledger -/
inductive SavedAre (rest : List (Addr × Obj)) : List Value → List (List Int) → Prop
  | nil : SavedAre rest [] []
  | snoc {vs : List Value} {Ws : List (List Int)} {a : Addr} {us : List Value} {c : Nat} {W : List Int} (r : SavedAre rest vs Ws) (h : (a, PySem.W.listOf us.toArray c) ∈ rest) (hi : IntsAre us W) : SavedAre rest (vs ++ [.ref a]) (Ws ++ [W])
end PartD14

section PartD15
open PySem PySem.Calls PySem.W PyProof.Rows Builtin
set_option maxRecDepth 100000
set_option maxHeartbeats 4000000
section
variable {prog : Program} {w : World} {M : Model} {A : Around} {E : Value → Shared → Prop} {s : Shared} {h₀ : Heap} {L : Addr} {m : PySem.Str → Option Value} {news : List (Addr × Obj)} {env : Env}

def JoinInt (s : Shared) (v : Value) (s' : Shared) : Prop := ∃ n t tk, v = .int n t ∧ s' = { s with toks := tk }
theorem join_int {c : Sem Value} {Q : Value → Shared → Prop} (hin : wpAny M A c (JoinInt s) E s) (hout : ∀ n t tk, Q (.int n t) { s with toks := tk }) : wpAny M A c Q E s :=
  wpAny_mono hin (fun v s' h => by obtain ⟨n, t, tk, rfl, rfl⟩ := h; exact hout n t tk) fun _ _ z => z

def JoinSeq (h₀ : Heap) (L : Addr) (m : PySem.Str → Option Value) (news : List (Addr × Obj)) (xs : Array Value) (s : Shared) (v : Value) (s' : Shared) : Prop :=
  ∃ b oi ni h' tk, v = .ref b ∧ s' = { s with heap := h', toks := tk } ∧ Fr h₀ L h' m ∧ News h₀ L h' ((b, oi) :: news) ∧ (oi.cls = .type "list" ∨ oi.cls = .type "tuple") ∧ oi.data = .seq xs ni
theorem join_seq {g : Addr} {ys : List Value} {c : Sem Value} {Q : Value → Shared → Prop} (_F : Fr h₀ L s.heap m) (_N : News h₀ L s.heap news) (_hg : (g, LCg.lst ys) ∈ news) (hin : wpAny M A c (JoinSeq h₀ L m news ys.toArray s) E s)
    (hout : ∀ b oi ni h' tk, Fr h₀ L h' m → News h₀ L h' ((b, oi) :: news) → (oi.cls = .type "list" ∨ oi.cls = .type "tuple") → oi.data = .seq ys.toArray ni → Q (.ref b) { s with heap := h', toks := tk }) : wpAny M A c Q E s :=
  wpAny_mono hin (fun v s' h => by obtain ⟨b, oi, ni, h', tk, rfl, rfl, a1, a2, a3, a4⟩ := h; exact hout b oi ni h' tk a1 a2 a3 a4) fun _ _ z => z

/-- the list that the deeds come from -/
def DeedList (h₀ : Heap) (L : Addr) (m : PySem.Str → Option Value) (news : List (Addr × Obj)) (s : Shared) (v : Value) (s' : Shared) : Prop :=
  ∃ l vs ns c h' tk, v = .ref l ∧ s' = { s with heap := h', toks := tk } ∧ Fr h₀ L h' m ∧ News h₀ L h' ((l, PySem.W.listOf (List.toArray vs) c) :: news) ∧ (∀ p ∈ news, p.1 < l) ∧ IntsAre vs ns ∧ ns.length ≤ 30
theorem join_list {c : Sem Value} {Q : Value → Shared → Prop} (_F : Fr h₀ L s.heap m) (_N : News h₀ L s.heap news) (hin : wpAny M A c (DeedList h₀ L m news s) E s)
    (hout : ∀ l vs ns c h' tk, Fr h₀ L h' m → News h₀ L h' ((l, PySem.W.listOf (List.toArray vs) c) :: news) → (∀ p ∈ news, p.1 < l) → IntsAre vs ns → ns.length ≤ 30 → Q (.ref l) { s with heap := h', toks := tk }) : wpAny M A c Q E s :=
  wpAny_mono hin (fun v s' h => by obtain ⟨l, vs, ns, c, h', tk, rfl, rfl, a1, a2, a3, a4, a5⟩ := h; exact hout l vs ns c h' tk a1 a2 a3 a4 a5) fun _ _ z => z

/-- behind a suite that binds one name -/
def JoinIf (h₀ : Heap) (L : Addr) (m : PySem.Str → Option Value) (y : PySem.Str) (news : List (Addr × Obj)) (s : Shared) (f : Flow) (s' : Shared) : Prop :=
  f = .next ∧ ∃ u h' tk, s' = { s with heap := h', toks := tk } ∧ Fr h₀ L h' (fun z => if z = y then u else m z) ∧ News h₀ L h' news
theorem join_if {y : PySem.Str} {c : Sem Flow} {Q : Flow → Shared → Prop} (_F : Fr h₀ L s.heap m) (_N : News h₀ L s.heap news) (hin : wpAny M A c (JoinIf h₀ L m y news s) E s)
    (hout : ∀ u h' tk, Fr h₀ L h' (fun z => if z = y then u else m z) → News h₀ L h' news → Q .next { s with heap := h', toks := tk }) : wpAny M A c Q E s :=
  wpAny_mono hin (fun f s' h => by obtain ⟨rfl, u, h', tk, rfl, a1, a2⟩ := h; exact hout u h' tk a1 a2) fun _ _ z => z
theorem fr_same {h : Heap} {y : PySem.Str} (F : Fr h₀ L h m) : Fr h₀ L h (fun z => if z = y then m y else m z) := by
  have e : (fun z => if z = y then m y else m z) = m := by
    funext z
    by_cases q : z = y
    · simp [q]
    · simp [q]
  rw [e]; exact F

theorem newsCons {h : Heap} {b : Addr} {o : Obj} (N : News h₀ L h news) (hb : (b, o) ∈ news) : News h₀ L h ((b, o) :: news) := fun p hp => by
  rcases List.mem_cons.mp hp with rfl | hp
  · exact N _ hb
  · exact N p hp
def StepEnd (h₀ : Heap) (L : Addr) (J : (PySem.Str → Option Value) → List (Addr × Obj) → Prop) (own : List (Addr × Obj)) (s₁ s₂ : Shared) : Prop :=
  ∃ h' tk m' nx, s₂ = { s₁ with heap := h', toks := tk } ∧ Fr h₀ L h' m' ∧ News h₀ L h' (nx ++ own) ∧ (∀ p ∈ own, ∀ q ∈ nx, q.1 ≠ p.1) ∧ J m' nx
def StepPost (h₀ : Heap) (L : Addr) (J : (PySem.Str → Option Value) → List (Addr × Obj) → Prop) (own : List (Addr × Obj)) (s₁ : Shared) (Q : Flow → Shared → Prop) (f : Flow) (s₂ : Shared) : Prop :=
  match f with
  | .ret v => Q (.ret v) s₂
  | .brk => Q .next s₂
  | _ => StepEnd h₀ L J own s₁ s₂

theorem iter_new {x : PySem.Str} {body : List Stmt} {Q : Flow → Shared → Prop} {l : Addr} {vs : List Value} {c : Nat} {ns : List Int} (J : Nat → (PySem.Str → Option Value) → List (Addr × Obj) → Prop)
    (hh : A.handled = none) (F : Fr h₀ env.locals s.heap m) (N : News h₀ env.locals s.heap ((l, PySem.W.listOf vs.toArray c) :: news)) (hlt : ∀ p ∈ news, p.1 < l) (hi : IntsAre vs ns) (hj : J 0 m news)
    (turn : ∀ i n t m₁ news₁ h tk own, i < ns.length → (∀ p ∈ own, ∀ q ∈ news₁, q.1 ≠ p.1) → J i m₁ news₁ → Fr h₀ env.locals h (fun y => if y = x then some (.int n t) else m₁ y) → News h₀ env.locals h (news₁ ++ own) →
      wpAny (model prog w) A (execs body env) (StepPost h₀ env.locals (J (i + 1)) own { s with heap := h, toks := tk } Q) E { s with heap := h, toks := tk })
    (done : ∀ m₁ news₁ h tk, J ns.length m₁ news₁ → Fr h₀ env.locals h m₁ → News h₀ env.locals h news₁ → Q .next { s with heap := h, toks := tk }) :
    wpAny (model prog w) A (pyIter (.ref l)) (fun it s₂ => LoopAtV prog w A h₀ env x body Q E it s₂) E s := by
  have hls : s.heap.IsList l vs.toArray := News.isList N (.head _)
  have hll := N _ (.head _)
  have hlt' : l < s.heap.objs.size := Heap.lt_size hll.1
  have hne : l ≠ s.heap.objs.size := Nat.ne_of_lt hlt'
  refine wpAny_pyIter_list hls ?_
  have W := Walks.list (prog := prog) (w := w) hh s.heap.objs.size l hne vs.toArray
  have hlen : vs.toArray.size = ns.length := by simp [hi.length]
  rw [hlen] at W
  let J' : Nat → (PySem.Str → Option Value) → List (Addr × Obj) → Prop := fun i m₁ news₁ => (∀ q ∈ news₁, q.1 ≠ l) ∧ J i m₁ news₁
  refine ⟨_, _, _, ns.length, _, _, m, news, J', rfl, W, ?_, ?_, ?_, ⟨⟨_, Heap.get?_push_size _ rfl, rfl, rfl⟩, hls.at fun o e => Heap.get?_push_of_some _ e⟩, F.push _, (fun p hp => ⟨Heap.get?_push_of_some _ (N p (.tail _ hp)).1, (N p (.tail _ hp)).2⟩), ⟨fun q hq => Nat.ne_of_lt (hlt q hq), hj⟩, ?_, ?_⟩
  · intro hm
    rcases List.mem_cons.mp hm with e | hm
    · exact absurd F.ns.lt (e ▸ Nat.lt_irrefl _)
    · exact hll.2.1 (List.mem_singleton.mp hm).symm
  · intro b hb
    rw [List.mem_singleton.mp hb]
    exact next_is_new F
  · intro p hp hI
    exact absurd (Heap.lt_size (N p (.tail _ hp)).1) ((List.mem_singleton.mp hI) ▸ Nat.lt_irrefl _)
  · rintro i v m₁ news₁ s₁ own ⟨hh', tk', rfl⟩ hin hP ⟨hnl, hJ⟩ hoff hown _ hall hst F₁ N₁
    have hsep : ∀ p ∈ own, ∀ q ∈ news₁, q.1 ≠ p.1 := by
      intro p hp q hq e
      rcases List.mem_cons.mp (hown p hp) with h1 | h1
      · exact hoff q hq (by rw [e, h1]; exact .head _)
      · exact hnl q hq (e.trans (List.mem_singleton.mp h1))
    obtain ⟨ol, hol, _⟩ := id hst.2
    have hlo : (l, ol) ∈ own := hall l (.tail _ (.head _)) hll.2.2 ol hol
    have hIo : ∃ oI, (s.heap.objs.size, oI) ∈ own := by
      obtain ⟨oI, hoI, _⟩ := id hst.1
      exact ⟨oI, hall _ (.head _) (next_is_new F) oI hoI⟩
    obtain ⟨oI, hIo⟩ := hIo
    have hlt' : i < ns.length := hin
    obtain ⟨t, hx⟩ := hi.get i ns[i] (by simp [hlt'])
    have hv : v = .int ns[i] t := by
      have hP' : vs[i]? = some v := by simpa using hP
      rw [hx] at hP'; exact (Option.some.inj hP').symm
    subst hv
    have N₂ : News h₀ env.locals hh' (news₁ ++ own) := fun p hp => N₁ p ((List.mem_append.mp hp).elim (fun h => List.mem_append.mpr (.inr h)) fun h => List.mem_append.mpr (.inl h))
    refine wpAny_mono (turn i ns[i] t m₁ news₁ hh' tk' own hlt' hsep hJ F₁ N₂) (fun f s₂ p => ?_) fun _ _ e => e
    have fin : StepEnd h₀ env.locals (J (i + 1)) own { s with heap := hh', toks := tk' } s₂ → LoopStepU h₀ env.locals [s.heap.objs.size] own (J' (i + 1)) { s with heap := hh', toks := tk' } .next s₂ := by
      rintro ⟨h', tk, m', nx, e, F', N', ho, hm⟩
      refine ⟨rfl, h', tk, m', nx, e, F', fun p hp => N' p ((List.mem_append.mp hp).elim (fun h => List.mem_append.mpr (.inr h)) fun h => List.mem_append.mpr (.inl h)), fun p hp hq => ?_, fun q hq => ho _ hlo q hq, hm⟩
      exact ho _ hIo p hp (List.mem_singleton.mp hq)
    cases f with
    | ret v => exact .ret p
    | brk => exact .brk p
    | next => exact .next (fin p)
    | cont => exact .cont (fin p)
  · rintro h' tk m' news' F' N' _ ⟨_, hJ⟩
    exact done m' news' h' tk hJ F' N'
end
end PartD15

section PartD16
open PySem PySem.Calls PySem.W PyProof.Rows Builtin
set_option maxRecDepth 100000
set_option maxHeartbeats 4000000
theorem given_facts {ys : List Value} {p : Int → Prop} [DecidablePred p] (h : IntsAre ys (List.foldl (fun l' k' => if p k' then l' ++ [k'] else l') [] (rangeKs 0 (9 - 0 : Int).toNat))) : ∃ gs, IntsAre ys gs ∧ gs.Nodup ∧ gs.length ≤ 9 := by
  refine ⟨_, h, ?_, ?_⟩
  · rw [fold_filter, List.nil_append]
    exact List.Pairwise.filter _ (by decide)
  · rw [fold_filter, List.nil_append]
    refine Nat.le_trans (List.length_filter_le _ _) ?_
    decide

/-- the ledger between two deeds -/
def Canon (x dx ha sa sv cv : Addr) (h1 h2 : Int) (t1 t2 : Tok) (kk : Nat) (vs hs ss ws : List Value) (ocv : Obj) (n c1 c2 c3 : Nat) (rest : List (Addr × Obj)) : List (Addr × Obj) :=
  (x, domObj 264 dx vs.toArray n) :: (dx, dictOf (desOf ha sa h1 h2 t1 t2) kk) :: (ha, PySem.W.listOf hs.toArray c1) :: (sa, PySem.W.listOf ss.toArray c2) :: (sv, PySem.W.listOf ws.toArray c3) :: (cv, ocv) :: rest

structure LIP (x dx ha sa cv gv kv sv hv : Addr) (ys : List Value) (cg ck c4 : Nat) (gs D H M : List Int) (st : List (Int × List Int)) (vs hs ss ws us : List Value) (ocv : Obj) (i : Nat) (m : PySem.Str → Option Value) (rest : List (Addr × Obj)) : Prop where
  good : Good gs D H M st
  ivs : IntsAre vs D
  ihs : IntsAre hs H
  ius : IntsAre us M
  iss : IntsAre ss (st.map (·.1)).reverse
  iws : SavedAre rest ws (st.map (·.2)).reverse
  len : st.length ≤ i
  cell : ∃ u, ocv.data = .cell u
  mg : (gv, PySem.W.listOf ys.toArray cg) ∈ rest
  mkv : (kv, PySem.W.listOf ys.toArray ck) ∈ rest
  mh : (hv, PySem.W.listOf us.toArray c4) ∈ rest
  rx : ∀ p ∈ rest, p.1 ≠ x
  rdx : ∀ p ∈ rest, p.1 ≠ dx
  rha : ∀ p ∈ rest, p.1 ≠ ha
  rsa : ∀ p ∈ rest, p.1 ≠ sa
  rsv : ∀ p ∈ rest, p.1 ≠ sv
  rcv : ∀ p ∈ rest, p.1 ≠ cv
  n1 : @Ne Nat sv x
  n2 : @Ne Nat sv dx
  n3 : @Ne Nat sv ha
  n4 : @Ne Nat sv sa
  n5 : @Ne Nat sv cv
  vd : m (PySem.Str.ofString "domain") = some (.ref x)
  vg : m (PySem.Str.ofString "given") = some (.ref gv)
  vk : m (PySem.Str.ofString "kept") = some (.ref kv)
  vh : m (PySem.Str.ofString "held") = some (.ref hv)
  vv : m (PySem.Str.ofString "saved") = some (.ref sv)

theorem SavedAre.sub {rest rest' : List (Addr × Obj)} (hs : ∀ p ∈ rest, p ∈ rest') {vs : List Value} {Ws : List (List Int)} (h : SavedAre rest vs Ws) : SavedAre rest' vs Ws := by
  induction h with
  | nil => exact .nil
  | snoc _ h hi ih => exact .snoc ih (hs _ h) hi

section
variable (h₀ : Heap) (L x dx ha sa cv gv kv : Addr) (h1 h2 : Int) (t1 t2 : Tok) (kk : Nat) (ys : List Value) (cg ck : Nat) (gs : List Int)
/-- behind a turn: the ledger's steady part is `rest'`, that of the books is `rest` -/
def TurnEndL (rest rest' : List (Addr × Obj)) (i : Nat) (s₁ s₂ : Shared) : Prop :=
  ∃ h' tk m' sv hv D H M st vs hs ss ws us n c1 c2 c3 c4 ocv extra, s₂ = { s₁ with heap := h', toks := tk } ∧ Fr h₀ L h' m' ∧ News h₀ L h' (Canon x dx ha sa sv cv h1 h2 t1 t2 kk vs hs ss ws ocv n c1 c2 c3 (extra ++ rest')) ∧
    (∀ q ∈ extra, ∀ p ∈ rest', q.1 ≠ p.1) ∧ (∀ p ∈ rest', p.1 ≠ sv) ∧ LIP x dx ha sa cv gv kv sv hv ys cg ck c4 gs D H M st vs hs ss ws us ocv i m' (extra ++ rest)
def TurnPostL (rest rest' : List (Addr × Obj)) (i : Nat) (s₁ : Shared) (Q : Flow → Shared → Prop) (f : Flow) (s₂ : Shared) : Prop :=
  match f with
  | .ret v => Q (.ret v) s₂
  | .brk => Q .next s₂
  | _ => TurnEndL h₀ L x dx ha sa cv gv kv h1 h2 t1 t2 kk ys cg ck gs rest rest' i s₁ s₂
end

section
variable {prog : Program} {w : World} {A : Around} {E : Value → Shared → Prop} {s : Shared} {h₀ : Heap} {m : PySem.Str → Option Value} {env : Env}
theorem map_five {m : PySem.Str → Option Value} {y : PySem.Str} {a b c d e : Value} {v : Option Value} (vd : m (PySem.Str.ofString "domain") = some a) (vg : m (PySem.Str.ofString "given") = some b)
    (vk : m (PySem.Str.ofString "kept") = some c) (vh : m (PySem.Str.ofString "held") = some d) (vv : m (PySem.Str.ofString "saved") = some e) :
    (fun z => if z = y then v else m z) = fun z => if z = y then v else if z = PySem.Str.ofString "domain" then some a else if z = PySem.Str.ofString "given" then some b else if z = PySem.Str.ofString "kept" then some c
      else if z = PySem.Str.ofString "held" then some d else if z = PySem.Str.ofString "saved" then some e else m z := by
  funext z
  by_cases q : z = y
  · simp only [if_pos q]
  · simp only [if_neg q]
    by_cases q1 : z = PySem.Str.ofString "domain"
    · simp only [if_pos q1]; rw [q1, vd]
    · simp only [if_neg q1]
      by_cases q2 : z = PySem.Str.ofString "given"
      · simp only [if_pos q2]; rw [q2, vg]
      · simp only [if_neg q2]
        by_cases q3 : z = PySem.Str.ofString "kept"
        · simp only [if_pos q3]; rw [q3, vk]
        · simp only [if_neg q3]
          by_cases q4 : z = PySem.Str.ofString "held"
          · simp only [if_pos q4]; rw [q4, vh]
          · simp only [if_neg q4]
            by_cases q5 : z = PySem.Str.ofString "saved"
            · simp only [if_pos q5]; rw [q5, vv]
            · simp only [if_neg q5]

theorem law_loop {l x dx ha sa cv gv kv sv hv : Addr} {h1 h2 : Int} {t1 t2 : Tok} {kk cg ck : Nat} {ys vs : List Value} {c : Nat} {ns gs : List Int} {news : List (Addr × Obj)} {y : PySem.Str} {body : List Stmt} {Q : Flow → Shared → Prop}
    {vs₀ hs₀ ss₀ ws₀ us₀ : List Value} {D₀ H₀ M₀ : List Int} {n₀ c1₀ c2₀ c3₀ c4₀ : Nat} {ocv₀ : Obj} {rest₀ : List (Addr × Obj)}
    (hh : A.handled = none) (F : Fr h₀ env.locals s.heap m) (N : News h₀ env.locals s.heap ((l, PySem.W.listOf vs.toArray c) :: news)) (hlt : ∀ p ∈ news, p.1 < l) (hi : IntsAre vs ns) (h30 : ns.length ≤ 30)
    (hsub : ∀ p ∈ Canon x dx ha sa sv cv h1 h2 t1 t2 kk vs₀ hs₀ ss₀ ws₀ ocv₀ n₀ c1₀ c2₀ c3₀ rest₀, p ∈ news)
    (hP : LIP x dx ha sa cv gv kv sv hv ys cg ck c4₀ gs D₀ H₀ M₀ [] vs₀ hs₀ ss₀ ws₀ us₀ ocv₀ 0 m rest₀)
    (turn : ∀ i n t m₁ h tk sv hv D H M st vs hs ss ws us nn c1 c2 c3 c4 ocv rest rest', i < 30 → (∀ p ∈ rest, p ∈ rest') →
      LIP x dx ha sa cv gv kv sv hv ys cg ck c4 gs D H M st vs hs ss ws us ocv i m₁ rest → LIP x dx ha sa cv gv kv sv hv ys cg ck c4 gs D H M st vs hs ss ws us ocv i m₁ rest' →
      Fr h₀ env.locals h (fun z => if z = y then some (.int n t) else if z = PySem.Str.ofString "domain" then some (.ref x) else if z = PySem.Str.ofString "given" then some (.ref gv) else if z = PySem.Str.ofString "kept" then some (.ref kv)
        else if z = PySem.Str.ofString "held" then some (.ref hv) else if z = PySem.Str.ofString "saved" then some (.ref sv) else m₁ z) →
      News h₀ env.locals h ((x, domObj 264 dx vs.toArray nn) :: (dx, dictOf (desOf ha sa h1 h2 t1 t2) kk) :: (ha, PySem.W.listOf hs.toArray c1) :: (sa, PySem.W.listOf ss.toArray c2) :: (sv, PySem.W.listOf ws.toArray c3) :: (cv, ocv) :: rest') →
      wpAny (model prog w) A (execs body env) (TurnPostL h₀ env.locals x dx ha sa cv gv kv h1 h2 t1 t2 kk ys cg ck gs rest rest' (i + 1) { s with heap := h, toks := tk } Q) E { s with heap := h, toks := tk })
    (done : ∀ u m₁ h tk sv hv D H M st vs hs ss ws us nn c1 c2 c3 c4 ocv rest, LIP x dx ha sa cv gv kv sv hv ys cg ck c4 gs D H M st vs hs ss ws us ocv 30 m₁ rest →
      Fr h₀ env.locals h (fun z => if z = y then u else if z = PySem.Str.ofString "domain" then some (.ref x) else if z = PySem.Str.ofString "given" then some (.ref gv) else if z = PySem.Str.ofString "kept" then some (.ref kv)
        else if z = PySem.Str.ofString "held" then some (.ref hv) else if z = PySem.Str.ofString "saved" then some (.ref sv) else m₁ z) →
      News h₀ env.locals h ((x, domObj 264 dx vs.toArray nn) :: (dx, dictOf (desOf ha sa h1 h2 t1 t2) kk) :: (ha, PySem.W.listOf hs.toArray c1) :: (sa, PySem.W.listOf ss.toArray c2) :: (sv, PySem.W.listOf ws.toArray c3) :: (cv, ocv) :: rest) →
      Q .next { s with heap := h, toks := tk }) :
    wpAny (model prog w) A (pyIter (.ref l)) (fun it s₂ => LoopAtV prog w A h₀ env y body Q E it s₂) E s := by
  let J : Nat → (PySem.Str → Option Value) → List (Addr × Obj) → Prop := fun i m₁ nx => ∃ sv hv D H M st vs hs ss ws us n c1 c2 c3 c4 ocv rest,
    nx = Canon x dx ha sa sv cv h1 h2 t1 t2 kk vs hs ss ws ocv n c1 c2 c3 rest ∧ LIP x dx ha sa cv gv kv sv hv ys cg ck c4 gs D H M st vs hs ss ws us ocv i m₁ rest
  have N0 : News h₀ env.locals s.heap ((l, PySem.W.listOf vs.toArray c) :: Canon x dx ha sa sv cv h1 h2 t1 t2 kk vs₀ hs₀ ss₀ ws₀ ocv₀ n₀ c1₀ c2₀ c3₀ rest₀) := newsSub N fun p hp => by
    rcases List.mem_cons.mp hp with rfl | hp
    · exact .head _
    · exact .tail _ (hsub p hp)
  refine iter_new J hh F N0 (fun p hp => hlt p (hsub p hp)) hi ⟨_, _, _, _, _, _, _, _, _, _, _, _, _, _, _, _, _, _, rfl, hP⟩ ?_ ?_
  · rintro i n t m₁ _ h tk own hin hsep ⟨sv, hv, D, H, M, st, vs, hs, ss, ws, us, nn, c1, c2, c3, c4, ocv, rest, rfl, P⟩ F₁ N₁
    have hsub' : ∀ p ∈ rest, p ∈ rest ++ own := fun p hp => List.mem_append_left _ hp
    have hx : ∀ b o, (b, o) ∈ Canon x dx ha sa sv cv h1 h2 t1 t2 kk vs hs ss ws ocv nn c1 c2 c3 rest → ∀ p ∈ own, p.1 ≠ b := fun b o hb p hp e => hsep p hp _ hb e.symm
    have off : ∀ {b : Addr}, (∀ p ∈ rest, p.1 ≠ b) → (∀ p ∈ own, p.1 ≠ b) → ∀ p ∈ rest ++ own, p.1 ≠ b := fun h1 h2 p hp => (List.mem_append.mp hp).elim (h1 p) (h2 p)
    have ox := hx x _ (.head _)
    have odx := hx dx _ (.tail _ (.head _))
    have oha := hx ha _ (.tail _ (.tail _ (.head _)))
    have osa := hx sa _ (.tail _ (.tail _ (.tail _ (.head _))))
    have osv := hx sv _ (.tail _ (.tail _ (.tail _ (.tail _ (.head _)))))
    have ocv' := hx cv _ (.tail _ (.tail _ (.tail _ (.tail _ (.tail _ (.head _))))))
    have P' : LIP x dx ha sa cv gv kv sv hv ys cg ck c4 gs D H M st vs hs ss ws us ocv i m₁ (rest ++ own) :=
      ⟨P.good, P.ivs, P.ihs, P.ius, P.iss, P.iws.sub hsub', P.len, P.cell, hsub' _ P.mg, hsub' _ P.mkv, hsub' _ P.mh, off P.rx ox, off P.rdx odx, off P.rha oha, off P.rsa osa, off P.rsv osv, off P.rcv ocv', P.n1, P.n2, P.n3, P.n4, P.n5, P.vd, P.vg, P.vk, P.vh, P.vv⟩
    rw [map_five P.vd P.vg P.vk P.vh P.vv] at F₁
    refine wpAny_mono (turn i n t m₁ h tk sv hv D H M st vs hs ss ws us nn c1 c2 c3 c4 ocv rest (rest ++ own) (by omega) hsub' P P' F₁ N₁) (fun f s₂ p => ?_) fun _ _ e => e
    have fin : TurnEndL h₀ env.locals x dx ha sa cv gv kv h1 h2 t1 t2 kk ys cg ck gs rest (rest ++ own) (i + 1) { s with heap := h, toks := tk } s₂ → StepEnd h₀ env.locals (J (i + 1)) own { s with heap := h, toks := tk } s₂ := by
      rintro ⟨h', tk', m', sv', hv', D', H', M', st', vs', hs', ss', ws', us', n', c1', c2', c3', c4', ocv₁, extra, e, F', N', he, hs', P₁⟩
      refine ⟨h', tk', m', Canon x dx ha sa sv' cv h1 h2 t1 t2 kk vs' _ ss' ws' ocv₁ n' c1' c2' c3' (extra ++ rest), e, F', ?_, ?_, ⟨_, _, _, _, _, _, _, _, _, _, _, _, _, _, _, _, _, _, rfl, P₁⟩⟩
      · rw [← List.append_assoc] at N'
        exact N'
      · intro p hp q hq
        have hp' : p ∈ rest ++ own := List.mem_append_right _ hp
        unfold Canon at hq
        rcases List.mem_cons.mp hq with rfl | hq
        · exact (ox p hp).symm
        rcases List.mem_cons.mp hq with rfl | hq
        · exact (odx p hp).symm
        rcases List.mem_cons.mp hq with rfl | hq
        · exact (oha p hp).symm
        rcases List.mem_cons.mp hq with rfl | hq
        · exact (osa p hp).symm
        rcases List.mem_cons.mp hq with rfl | hq
        · exact (hs' p hp').symm
        rcases List.mem_cons.mp hq with rfl | hq
        · exact (ocv' p hp).symm
        rcases List.mem_append.mp hq with hq | hq
        · exact he q hq p hp'
        · exact hsep p hp q (.tail _ (.tail _ (.tail _ (.tail _ (.tail _ (.tail _ hq))))))
    cases f with
    | ret v => exact p
    | brk => exact p
    | next => exact fin p
    | cont => exact fin p
  · rintro m₁ _ h tk ⟨sv, hv, D, H, M, st, vs, hs, ss, ws, us, nn, c1, c2, c3, c4, ocv, rest, rfl, P⟩ F₁ N₁
    have e := map_five (y := y) (v := m₁ y) P.vd P.vg P.vk P.vh P.vv
    have F₂ := fr_same (y := y) F₁
    rw [e] at F₂
    exact done (m₁ y) m₁ h tk sv hv D H M st vs hs ss ws us nn c1 c2 c3 c4 ocv rest ⟨P.good, P.ivs, P.ihs, P.ius, P.iss, P.iws, Nat.le_trans P.len h30, P.cell, P.mg, P.mkv, P.mh, P.rx, P.rdx, P.rha, P.rsa, P.rsv, P.rcv, P.n1, P.n2, P.n3, P.n4, P.n5, P.vd, P.vg, P.vk, P.vh, P.vv⟩ F₂ N₁
end
end PartD16

section PartD17
open PySem PySem.Calls PySem.W PyProof.Rows Builtin
set_option maxRecDepth 100000
set_option maxHeartbeats 4000000
/-- what a turn's walk asks for -/
structure TI (x dx ha sa cv gv kv sv hv : Addr) (ys : List Value) (cg ck c4 : Nat) (gs D H M : List Int) (vs hs us : List Value) (ocv : Obj) (u : Option Value) (rest : List (Addr × Obj)) : Prop where
  ivs : IntsAre vs D
  ihs : IntsAre hs H
  ius : IntsAre us M
  iys : IntsAre ys gs
  lG : gs.length ≤ 9
  lD : D.length ≤ 9
  lH : H.length ≤ 9
  lM : M.length ≤ 9
  lvs : vs.length ≤ 9
  lhs : hs.length ≤ 9
  lus : us.length ≤ 9
  pm : D.Perm M
  cell : ocv.data = .cell u
  mg : (gv, PySem.W.listOf ys.toArray cg) ∈ rest
  mkv : (kv, PySem.W.listOf ys.toArray ck) ∈ rest
  mh : (hv, PySem.W.listOf us.toArray c4) ∈ rest
  rx : ∀ p ∈ rest, p.1 ≠ x
  rdx : ∀ p ∈ rest, p.1 ≠ dx
  rha : ∀ p ∈ rest, p.1 ≠ ha
  rsa : ∀ p ∈ rest, p.1 ≠ sa
  rsv : ∀ p ∈ rest, p.1 ≠ sv
  rcv : ∀ p ∈ rest, p.1 ≠ cv
  n1 : @Ne Nat sv x
  n2 : @Ne Nat sv dx
  n3 : @Ne Nat sv ha
  n4 : @Ne Nat sv sa
  n5 : @Ne Nat sv cv
  e1 : @Ne Nat x dx
  e2 : @Ne Nat x ha
  e3 : @Ne Nat x sa
  e4 : @Ne Nat dx ha
  e5 : @Ne Nat dx sa
  e6 : @Ne Nat ha sa
  e7 : @Ne Nat x cv
  e8 : @Ne Nat dx cv
  e9 : @Ne Nat ha cv
  e10 : @Ne Nat sa cv

theorem LIP.ti {x dx ha sa cv gv kv sv hv : Addr} {ys : List Value} {cg ck c4 : Nat} {gs D H M : List Int} {st : List (Int × List Int)} {vs hs ss ws us : List Value} {ocv : Obj} {i : Nat} {m : PySem.Str → Option Value} {rest : List (Addr × Obj)}
    (P : LIP x dx ha sa cv gv kv sv hv ys cg ck c4 gs D H M st vs hs ss ws us ocv i m rest) (iys : IntsAre ys gs) (lG : gs.length ≤ 9)
    (e1 : @Ne Nat x dx) (e2 : @Ne Nat x ha) (e3 : @Ne Nat x sa) (e4 : @Ne Nat dx ha) (e5 : @Ne Nat dx sa) (e6 : @Ne Nat ha sa) (e7 : @Ne Nat x cv) (e8 : @Ne Nat dx cv) (e9 : @Ne Nat ha cv) (e10 : @Ne Nat sa cv) :
    ∃ u, TI x dx ha sa cv gv kv sv hv ys cg ck c4 gs D H M vs hs us ocv u rest := by
  obtain ⟨u, hu⟩ := P.cell
  have a1 := P.good.lenD
  have a2 := P.good.lenH
  have a3 := P.good.lenM
  have b1 := P.ivs.length
  have b2 := P.ihs.length
  have b3 := P.ius.length
  exact ⟨u, P.ivs, P.ihs, P.ius, iys, lG, by omega, by omega, by omega, by omega, by omega, by omega, P.good.same, hu, P.mg, P.mkv, P.mh, P.rx, P.rdx, P.rha, P.rsa, P.rsv, P.rcv, P.n1, P.n2, P.n3, P.n4, P.n5, e1, e2, e3, e4, e5, e6, e7, e8, e9, e10⟩

theorem ints_snoc {vs : List Value} {ns : List Int} {q : Int} (h : IntsAre vs (ns ++ [q])) : ∃ vs' t, vs = vs' ++ [Value.int q t] ∧ IntsAre vs' ns := by
  induction ns generalizing vs with
  | nil =>
    obtain ⟨t, vs', rfl, h'⟩ := IntsAre.cons_inv h
    obtain rfl := IntsAre.nil_inv h'
    exact ⟨[], t, rfl, .nil⟩
  | cons a ns ih =>
    obtain ⟨t, vs', rfl, h'⟩ := IntsAre.cons_inv h
    obtain ⟨vs'', t', rfl, h''⟩ := ih h'
    exact ⟨_, t', rfl, .cons _ _ h''⟩
theorem SavedAre.inv {rest : List (Addr × Obj)} {vs : List Value} {Ws : List (List Int)} (h : SavedAre rest vs Ws) : (vs = [] ∧ Ws = []) ∨ ∃ vs' Ws' a us c W, vs = vs' ++ [Value.ref a] ∧ Ws = Ws' ++ [W] ∧ SavedAre rest vs' Ws' ∧ (a, PySem.W.listOf us.toArray c) ∈ rest ∧ IntsAre us W := by
  cases h with
  | nil => exact .inl ⟨rfl, rfl⟩
  | snoc r h hi => exact .inr ⟨_, _, _, _, _, _, rfl, rfl, r, h, hi⟩
theorem SavedAre.snoc_inv {rest : List (Addr × Obj)} {vs : List Value} {Ws : List (List Int)} {W : List Int} (h : SavedAre rest vs (Ws ++ [W])) : ∃ vs' a us c, vs = vs' ++ [Value.ref a] ∧ SavedAre rest vs' Ws ∧ (a, PySem.W.listOf us.toArray c) ∈ rest ∧ IntsAre us W := by
  rcases h.inv with ⟨_, e⟩ | ⟨vs', Ws', a, us, c, W', e1, e2, r, h, hi⟩
  · simp at e
  · obtain ⟨rfl, e⟩ := List.append_inj' e2 rfl
    obtain rfl : W = W' := by simpa using e
    exact ⟨vs', a, us, c, e1, r, h, hi⟩
theorem SavedAre.nil_inv {rest : List (Addr × Obj)} {vs : List Value} (h : SavedAre rest vs []) : vs = [] := by
  rcases h.inv with ⟨e, _⟩ | ⟨vs', Ws', a, us, c, W', e1, e2, r, h, hi⟩
  · exact e
  · simp at e2
theorem SavedAre.length {rest : List (Addr × Obj)} {vs : List Value} {Ws : List (List Int)} (h : SavedAre rest vs Ws) : vs.length = Ws.length := by
  induction h with
  | nil => rfl
  | snoc _ _ _ ih => simp [ih]

section
variable {prog : Program} {w : World} {A : Around} {E : Value → Shared → Prop} {s : Shared} {h₀ : Heap} {m : PySem.Str → Option Value} {env : Env}
theorem law_loop0 {l x dx ha sa cv gv kv sv hv b cf : Addr} {h1 h2 : Int} {t1 t2 : Tok} {kk cg ck n c1 c2 c3 c4 c : Nat} {ys vs : List Value} {ns gs : List Int} {y : PySem.Str} {body : List Stmt} {Q : Flow → Shared → Prop} {ob ocv ocf : Obj} {u : Option Value}
    (hh : A.handled = none) (F : Fr h₀ env.locals s.heap m)
    (N : News h₀ env.locals s.heap ((l, PySem.W.listOf vs.toArray c) :: (sv, PySem.W.listOf #[] c3) :: (hv, PySem.W.listOf ys.toArray c4) :: (sa, PySem.W.listOf #[] c2) :: (ha, PySem.W.listOf #[] c1) :: (x, domObj 264 dx ys.toArray n) :: (dx, dictOf (desOf ha sa h1 h2 t1 t2) kk) ::
      (b, ob) :: (kv, PySem.W.listOf ys.toArray ck) :: (gv, PySem.W.listOf ys.toArray cg) :: (cv, ocv) :: [(cf, ocf)]))
    (hlt : ∀ p ∈ ((sv, PySem.W.listOf #[] c3) :: (hv, PySem.W.listOf ys.toArray c4) :: (sa, PySem.W.listOf #[] c2) :: (ha, PySem.W.listOf #[] c1) :: (x, domObj 264 dx ys.toArray n) :: (dx, dictOf (desOf ha sa h1 h2 t1 t2) kk) ::
      (b, ob) :: (kv, PySem.W.listOf ys.toArray ck) :: (gv, PySem.W.listOf ys.toArray cg) :: (cv, ocv) :: [(cf, ocf)]), p.1 < l)
    (hi : IntsAre vs ns) (h30 : ns.length ≤ 30) (hG : IntsAre ys gs) (h9 : gs.length ≤ 9) (hcv : ocv.data = .cell u)
    (k1 : @LT.lt Nat _ dx x) (k2 : @LT.lt Nat _ x ha) (k3 : @LT.lt Nat _ ha sa) (k4 : @LT.lt Nat _ sa hv) (k5 : @LT.lt Nat _ hv sv) (k6 : @LT.lt Nat _ kv dx) (k7 : @LT.lt Nat _ gv dx) (k8 : @LT.lt Nat _ cv dx) (k9 : @LT.lt Nat _ cf dx)
    (k10 : @Ne Nat cv kv) (k11 : @Ne Nat cv gv) (k12 : @Ne Nat cv cf)
    (vd : m (PySem.Str.ofString "domain") = some (.ref x)) (vg : m (PySem.Str.ofString "given") = some (.ref gv)) (vk : m (PySem.Str.ofString "kept") = some (.ref kv)) (vh : m (PySem.Str.ofString "held") = some (.ref hv)) (vv : m (PySem.Str.ofString "saved") = some (.ref sv))
    (turnN : ∀ i n t m₁ h tk sv hv D H M vs hs us nn c1 c2 c3 c4 ocv u rest rest', i < 30 → (∀ p ∈ rest, p ∈ rest') →
      LIP x dx ha sa cv gv kv sv hv ys cg ck c4 gs D H M [] vs hs [] [] us ocv i m₁ rest → TI x dx ha sa cv gv kv sv hv ys cg ck c4 gs D H M vs hs us ocv u rest' →
      Fr h₀ env.locals h (fun z => if z = y then some (.int n t) else if z = PySem.Str.ofString "domain" then some (.ref x) else if z = PySem.Str.ofString "given" then some (.ref gv) else if z = PySem.Str.ofString "kept" then some (.ref kv)
        else if z = PySem.Str.ofString "held" then some (.ref hv) else if z = PySem.Str.ofString "saved" then some (.ref sv) else m₁ z) →
      News h₀ env.locals h ((x, domObj 264 dx vs.toArray nn) :: (dx, dictOf (desOf ha sa h1 h2 t1 t2) kk) :: (ha, PySem.W.listOf hs.toArray c1) :: (sa, PySem.W.listOf #[] c2) :: (sv, PySem.W.listOf #[] c3) :: (cv, ocv) :: rest') →
      wpAny (model prog w) A (execs body env) (TurnPostL h₀ env.locals x dx ha sa cv gv kv h1 h2 t1 t2 kk ys cg ck gs rest rest' (i + 1) { s with heap := h, toks := tk } Q) E { s with heap := h, toks := tk })
    (turnC : ∀ i n t m₁ h tk sv hv D H M vs hs us nn c1 c2 c3 c4 ocv u rest rest' q W st ss tq ws a us' cW, i < 30 → (∀ p ∈ rest, p ∈ rest') →
      LIP x dx ha sa cv gv kv sv hv ys cg ck c4 gs D H M ((q, W) :: st) vs hs (ss ++ [Value.int q tq]) (ws ++ [Value.ref a]) us ocv i m₁ rest → TI x dx ha sa cv gv kv sv hv ys cg ck c4 gs D H M vs hs us ocv u rest' →
      IntsAre ss (st.map (·.1)).reverse → SavedAre rest ws (st.map (·.2)).reverse → (a, PySem.W.listOf us'.toArray cW) ∈ rest → (a, PySem.W.listOf us'.toArray cW) ∈ rest' → IntsAre us' W → ss.length ≤ 29 → ws.length ≤ 29 → D.length ≤ q → q ≤ D.length + H.length →
      Fr h₀ env.locals h (fun z => if z = y then some (.int n t) else if z = PySem.Str.ofString "domain" then some (.ref x) else if z = PySem.Str.ofString "given" then some (.ref gv) else if z = PySem.Str.ofString "kept" then some (.ref kv)
        else if z = PySem.Str.ofString "held" then some (.ref hv) else if z = PySem.Str.ofString "saved" then some (.ref sv) else m₁ z) →
      News h₀ env.locals h ((x, domObj 264 dx vs.toArray nn) :: (dx, dictOf (desOf ha sa h1 h2 t1 t2) kk) :: (ha, PySem.W.listOf hs.toArray c1) :: (sa, PySem.W.listOf (ss ++ [Value.int q tq]).toArray c2) :: (sv, PySem.W.listOf (ws ++ [Value.ref a]).toArray c3) :: (cv, ocv) :: rest') →
      wpAny (model prog w) A (execs body env) (TurnPostL h₀ env.locals x dx ha sa cv gv kv h1 h2 t1 t2 kk ys cg ck gs rest rest' (i + 1) { s with heap := h, toks := tk } Q) E { s with heap := h, toks := tk })
    (done : ∀ u m₁ h tk sv hv D H M st vs hs ss ws us nn c1 c2 c3 c4 ocv u' rest, LIP x dx ha sa cv gv kv sv hv ys cg ck c4 gs D H M st vs hs ss ws us ocv 30 m₁ rest → TI x dx ha sa cv gv kv sv hv ys cg ck c4 gs D H M vs hs us ocv u' rest → ss.length ≤ 30 → ws.length ≤ 30 →
      Fr h₀ env.locals h (fun z => if z = y then u else if z = PySem.Str.ofString "domain" then some (.ref x) else if z = PySem.Str.ofString "given" then some (.ref gv) else if z = PySem.Str.ofString "kept" then some (.ref kv)
        else if z = PySem.Str.ofString "held" then some (.ref hv) else if z = PySem.Str.ofString "saved" then some (.ref sv) else m₁ z) →
      News h₀ env.locals h ((x, domObj 264 dx vs.toArray nn) :: (dx, dictOf (desOf ha sa h1 h2 t1 t2) kk) :: (ha, PySem.W.listOf hs.toArray c1) :: (sa, PySem.W.listOf ss.toArray c2) :: (sv, PySem.W.listOf ws.toArray c3) :: (cv, ocv) :: rest) →
      Q .next { s with heap := h, toks := tk }) :
    wpAny (model prog w) A (pyIter (.ref l)) (fun it s₂ => LoopAtV prog w A h₀ env y body Q E it s₂) E s := by
  have hsub : ∀ p ∈ Canon x dx ha sa sv cv h1 h2 t1 t2 kk ys [] [] [] ocv n c1 c2 c3 [(hv, PySem.W.listOf ys.toArray c4), (kv, PySem.W.listOf ys.toArray ck), (gv, PySem.W.listOf ys.toArray cg), (cf, ocf)],
      p ∈ ((sv, PySem.W.listOf #[] c3) :: (hv, PySem.W.listOf ys.toArray c4) :: (sa, PySem.W.listOf #[] c2) :: (ha, PySem.W.listOf #[] c1) :: (x, domObj 264 dx ys.toArray n) :: (dx, dictOf (desOf ha sa h1 h2 t1 t2) kk) ::
      (b, ob) :: (kv, PySem.W.listOf ys.toArray ck) :: (gv, PySem.W.listOf ys.toArray cg) :: (cv, ocv) :: [(cf, ocf)]) := by
    intro p hp
    simp only [Canon, List.mem_cons, List.not_mem_nil, or_false] at hp ⊢
    rcases hp with h | h | h | h | h | h | h | h | h | h <;> simp [h]
  have offs : ∀ {d : Addr}, @Ne Nat hv d → @Ne Nat kv d → @Ne Nat gv d → @Ne Nat cf d → ∀ p ∈ [(hv, PySem.W.listOf ys.toArray c4), (kv, PySem.W.listOf ys.toArray ck), (gv, PySem.W.listOf ys.toArray cg), (cf, ocf)], p.1 ≠ d := by
    intro d z1 z2 z3 z4 p hp
    simp only [List.mem_cons, List.not_mem_nil, or_false] at hp
    rcases hp with rfl | rfl | rfl | rfl
    · exact z1
    · exact z2
    · exact z3
    · exact z4
  refine law_loop (gs := gs) hh F N hlt hi h30 hsub ⟨Good.start gs, hG, .nil, hG, .nil, .nil, Nat.le_refl _, ⟨u, hcv⟩, .tail _ (.tail _ (.head _)), .tail _ (.head _), .head _, offs (by omega) (by omega) (by omega) (by omega), offs (by omega) (by omega) (by omega) (by omega), offs (by omega) (by omega) (by omega) (by omega), offs (by omega) (by omega) (by omega) (by omega), offs (by omega) (by omega) (by omega) (by omega), offs (by omega) (by omega) (by omega) (by omega), by omega, by omega, by omega, by omega, by omega, vd, vg, vk, vh, vv⟩ ?_ ?_
  · intro i n t m₁ h tk sv hv D H M st vs hs ss ws us nn c1 c2 c3 c4 ocv rest rest' hi30 hsub P P' F N
    obtain ⟨u, T⟩ := P'.ti hG h9 (by omega) (by omega) (by omega) (by omega) (by omega) (by omega) (by omega) (by omega) (by omega) (by omega)
    cases st with
    | nil =>
      obtain rfl := IntsAre.nil_inv P.iss
      obtain rfl := SavedAre.nil_inv P.iws
      exact turnN i n t m₁ h tk sv hv D H M vs hs us nn c1 c2 c3 c4 ocv u rest rest' hi30 hsub P T F N
    | cons a st =>
      obtain ⟨q, W⟩ := a
      have iss := P.iss
      rw [List.map_cons, List.reverse_cons] at iss
      obtain ⟨ss', tq, rfl, iss'⟩ := ints_snoc iss
      have iws := P.iws
      rw [List.map_cons, List.reverse_cons] at iws
      obtain ⟨ws', a, us', cW, rfl, iws', ma, ia⟩ := SavedAre.snoc_inv iws
      have hl := P.len
      rw [List.length_cons] at hl
      have z1 := iss'.length
      have z2 := iws'.length
      rw [List.length_reverse, List.length_map] at z1 z2
      exact turnC i n t m₁ h tk sv hv D H M vs hs us nn c1 c2 c3 c4 ocv u rest rest' q W st ss' tq ws' a us' cW hi30 hsub P T iss' iws' ma (hsub _ ma) ia (by omega) (by omega) P.good.bounds.1 P.good.bounds.2 F N
  · intro u m₁ h tk sv hv D H M st vs hs ss ws us nn c1 c2 c3 c4 ocv rest P F N
    obtain ⟨u', T⟩ := P.ti hG h9 (by omega) (by omega) (by omega) (by omega) (by omega) (by omega) (by omega) (by omega) (by omega) (by omega)
    have z1 := P.iss.length
    have z2 := P.iws.length
    have hl := P.len
    rw [List.length_reverse, List.length_map] at z1 z2
    exact done u m₁ h tk sv hv D H M st vs hs ss ws us nn c1 c2 c3 c4 ocv u' rest P T (by omega) (by omega) F N
theorem law_loop1 {l x dx ha sa cv gv kv sv hv b cf : Addr} {h1 h2 : Int} {t1 t2 : Tok} {kk cg ck n c1 c2 c3 c4 c : Nat} {ys vs : List Value} {ns gs : List Int} {y : PySem.Str} {body : List Stmt} {Q : Flow → Shared → Prop} {ob ocv ocf : Obj} {u : Option Value} {L : Addr}
    (hL : env.locals = L) (hh : A.handled = none) (F : Fr h₀ L s.heap m)
    (N : News h₀ L s.heap ((l, PySem.W.listOf vs.toArray c) :: (sv, PySem.W.listOf #[] c3) :: (hv, PySem.W.listOf ys.toArray c4) :: (sa, PySem.W.listOf #[] c2) :: (ha, PySem.W.listOf #[] c1) :: (x, domObj 264 dx ys.toArray n) :: (dx, dictOf (desOf ha sa h1 h2 t1 t2) kk) ::
      (b, ob) :: (kv, PySem.W.listOf ys.toArray ck) :: (gv, PySem.W.listOf ys.toArray cg) :: (cv, ocv) :: [(cf, ocf)]))
    (hlt : ∀ p ∈ ((sv, PySem.W.listOf #[] c3) :: (hv, PySem.W.listOf ys.toArray c4) :: (sa, PySem.W.listOf #[] c2) :: (ha, PySem.W.listOf #[] c1) :: (x, domObj 264 dx ys.toArray n) :: (dx, dictOf (desOf ha sa h1 h2 t1 t2) kk) ::
      (b, ob) :: (kv, PySem.W.listOf ys.toArray ck) :: (gv, PySem.W.listOf ys.toArray cg) :: (cv, ocv) :: [(cf, ocf)]), p.1 < l)
    (hi : IntsAre vs ns) (h30 : ns.length ≤ 30) (hG : IntsAre ys gs) (h9 : gs.length ≤ 9) (hcv : ocv.data = .cell u)
    (k1 : @LT.lt Nat _ dx x) (k2 : @LT.lt Nat _ x ha) (k3 : @LT.lt Nat _ ha sa) (k4 : @LT.lt Nat _ sa hv) (k5 : @LT.lt Nat _ hv sv) (k6 : @LT.lt Nat _ kv dx) (k7 : @LT.lt Nat _ gv dx) (k8 : @LT.lt Nat _ cv dx) (k9 : @LT.lt Nat _ cf dx)
    (k10 : @Ne Nat cv kv) (k11 : @Ne Nat cv gv) (k12 : @Ne Nat cv cf)
    (vd : m (PySem.Str.ofString "domain") = some (.ref x)) (vg : m (PySem.Str.ofString "given") = some (.ref gv)) (vk : m (PySem.Str.ofString "kept") = some (.ref kv)) (vh : m (PySem.Str.ofString "held") = some (.ref hv)) (vv : m (PySem.Str.ofString "saved") = some (.ref sv))
    (turnN : ∀ i n t m₁ h tk sv hv D H M vs hs us nn c1 c2 c3 c4 ocv u rest rest', i < 30 → (∀ p ∈ rest, p ∈ rest') →
      LIP x dx ha sa cv gv kv sv hv ys cg ck c4 gs D H M [] vs hs [] [] us ocv i m₁ rest → TI x dx ha sa cv gv kv sv hv ys cg ck c4 gs D H M vs hs us ocv u rest' →
      Fr h₀ L h (fun z => if z = y then some (.int n t) else if z = PySem.Str.ofString "domain" then some (.ref x) else if z = PySem.Str.ofString "given" then some (.ref gv) else if z = PySem.Str.ofString "kept" then some (.ref kv)
        else if z = PySem.Str.ofString "held" then some (.ref hv) else if z = PySem.Str.ofString "saved" then some (.ref sv) else m₁ z) →
      News h₀ L h ((x, domObj 264 dx vs.toArray nn) :: (dx, dictOf (desOf ha sa h1 h2 t1 t2) kk) :: (ha, PySem.W.listOf hs.toArray c1) :: (sa, PySem.W.listOf #[] c2) :: (sv, PySem.W.listOf #[] c3) :: (cv, ocv) :: rest') →
      wpAny (model prog w) A (execs body env) (TurnPostL h₀ L x dx ha sa cv gv kv h1 h2 t1 t2 kk ys cg ck gs rest rest' (i + 1) { s with heap := h, toks := tk } Q) E { s with heap := h, toks := tk })
    (turnC : ∀ i n t m₁ h tk sv hv D H M vs hs us nn c1 c2 c3 c4 ocv u rest rest' q W st ss tq ws a us' cW, i < 30 → (∀ p ∈ rest, p ∈ rest') →
      LIP x dx ha sa cv gv kv sv hv ys cg ck c4 gs D H M ((q, W) :: st) vs hs (ss ++ [Value.int q tq]) (ws ++ [Value.ref a]) us ocv i m₁ rest → TI x dx ha sa cv gv kv sv hv ys cg ck c4 gs D H M vs hs us ocv u rest' →
      IntsAre ss (st.map (·.1)).reverse → SavedAre rest ws (st.map (·.2)).reverse → (a, PySem.W.listOf us'.toArray cW) ∈ rest → (a, PySem.W.listOf us'.toArray cW) ∈ rest' → IntsAre us' W → ss.length ≤ 29 → ws.length ≤ 29 → D.length ≤ q → q ≤ D.length + H.length →
      Fr h₀ L h (fun z => if z = y then some (.int n t) else if z = PySem.Str.ofString "domain" then some (.ref x) else if z = PySem.Str.ofString "given" then some (.ref gv) else if z = PySem.Str.ofString "kept" then some (.ref kv)
        else if z = PySem.Str.ofString "held" then some (.ref hv) else if z = PySem.Str.ofString "saved" then some (.ref sv) else m₁ z) →
      News h₀ L h ((x, domObj 264 dx vs.toArray nn) :: (dx, dictOf (desOf ha sa h1 h2 t1 t2) kk) :: (ha, PySem.W.listOf hs.toArray c1) :: (sa, PySem.W.listOf (ss ++ [Value.int q tq]).toArray c2) :: (sv, PySem.W.listOf (ws ++ [Value.ref a]).toArray c3) :: (cv, ocv) :: rest') →
      wpAny (model prog w) A (execs body env) (TurnPostL h₀ L x dx ha sa cv gv kv h1 h2 t1 t2 kk ys cg ck gs rest rest' (i + 1) { s with heap := h, toks := tk } Q) E { s with heap := h, toks := tk })
    (done : ∀ u m₁ h tk sv hv D H M st vs hs ss ws us nn c1 c2 c3 c4 ocv u' rest, LIP x dx ha sa cv gv kv sv hv ys cg ck c4 gs D H M st vs hs ss ws us ocv 30 m₁ rest → TI x dx ha sa cv gv kv sv hv ys cg ck c4 gs D H M vs hs us ocv u' rest → ss.length ≤ 30 → ws.length ≤ 30 →
      Fr h₀ L h (fun z => if z = y then u else if z = PySem.Str.ofString "domain" then some (.ref x) else if z = PySem.Str.ofString "given" then some (.ref gv) else if z = PySem.Str.ofString "kept" then some (.ref kv)
        else if z = PySem.Str.ofString "held" then some (.ref hv) else if z = PySem.Str.ofString "saved" then some (.ref sv) else m₁ z) →
      News h₀ L h ((x, domObj 264 dx vs.toArray nn) :: (dx, dictOf (desOf ha sa h1 h2 t1 t2) kk) :: (ha, PySem.W.listOf hs.toArray c1) :: (sa, PySem.W.listOf ss.toArray c2) :: (sv, PySem.W.listOf ws.toArray c3) :: (cv, ocv) :: rest) →
      Q .next { s with heap := h, toks := tk }) :
    wpAny (model prog w) A (pyIter (.ref l)) (fun it s₂ => LoopAtV prog w A h₀ env y body Q E it s₂) E s := by
  subst hL
  exact law_loop0 hh F N hlt hi h30 hG h9 hcv k1 k2 k3 k4 k5 k6 k7 k8 k9 k10 k11 k12 vd vg vk vh vv turnN turnC done
end
end PartD17

section Walks
open PySem PySem.Calls PySem.W PyProof.Rows Builtin
set_option maxRecDepth 100000
set_option maxHeartbeats 8000000
set_option compiler.extract_closed false
set_option rowWalk.seconds 0
set_option pp.deepTerms false
set_option pp.maxSteps 3000
local macro_rules | `(tactic| omega) => `(tactic| ((with_reducible refine (?_ : _ ≠ _)); first | with_reducible assumption | (refine Ne.symm ?_; with_reducible assumption) | (refine Nat.ne_of_lt ?_; with_reducible assumption) | (refine Nat.ne_of_gt ?_; with_reducible assumption)))
local macro_rules | `(tactic| walk_at "lc") => `(tactic| exact LC.mk (by ((with_reducible show overList _ 264 = true); kernel_rfl)) (by k_is) (by k_is) (by k_is) (by k_is) (by k_is) (by k_is))
local macro_rules | `(tactic| walk_at "sub") => `(tactic| (intro p hp; (repeat (first | exact hp | refine' List.Mem.tail _ ?_)); done))
local macro_rules | `(tactic| k_inst) => `(tactic| (refine' instD (by k_asm) (by k_mem) (by k_mem)))
local macro_rules | `(tactic| walk_at "call ref") => `(tactic| (k_here; (with_reducible show wpAny _ _ (call (Value.ref _) [_] []) _ _ _); k_dflt (refine' call_clsL (by k_asm) (by k_asm) (by k_asm) (by ((with_reducible show makesL _ 264 = true); kernel_rfl)) (by k_is) (by k_is) ?_; k_whole; intro x' d' h' F' N' l1 l2; (try k_lt l1); (try k_lt2 l2); (try k_sweep); k_enter)))
local macro_rules | `(tactic| walk_at "getMethod type:list") => `(tactic| (k_here; k_dflt (refine' getm_list_init (by k_asm) (by k_asm) ?_)))
local macro_rules | `(tactic| walk_at "call builtin:list.__init__") => `(tactic| (k_here; k_dflt (refine' init_dom ?F ?X ?N ?d ?e ?U ?o ?c ?s ?z ?_; (case F | X | N => k_asm); (case U => k_upd); (case d => k_mem); (case e => k_is); (case o => exact (News.get (by k_asm) (by k_mem))); (case c => first | exact .inl rfl | exact .inr rfl); (case s => rfl); (case z => size_fits)); intro h' F' N'; (try k_sweep)))
local macro_rules | `(tactic| walk_at "setAttr ref") => `(tactic| (k_here; k_dflt (refine' setL (by k_asm) (by k_asm) (by k_asm) (by k_inst) (by exact rfl) (by k_is) (by ((with_reducible show overList _ 264 = true); kernel_rfl)) (by k_is) (by k_get) (by k_put) (by k_upd) (by exact Nat.le_of_ble_eq_true rfl) ?_; k_whole; intro h' F' N'; (try k_sweep))))
local macro_rules | `(tactic| walk_at "call type:list") => `(tactic| (k_here; (with_reducible show wpAny _ _ (call (Value.type _) [Value.ref _]) _ _ _); k_dflt (refine' list_dom (by exact rfl) (by k_asm) (by k_asm) (by k_asm) (by walk_at "lc") (by k_mem) (by k_mem) (by size_fits) ?_); intro D' c' h' tk' F' N' l1; (try k_lt l1); (try k_sweep)))
local macro_rules | `(tactic| walk_at "call builtin:len") => `(tactic| (k_here; (with_reducible show wpAny _ _ (call (Value.builtin _) [Value.ref _]) _ _ _); k_dflt (refine' len_domK (by k_asm) (by k_asm) (by k_asm) (by walk_at "lc") (by k_mem) (by k_mem) (by size_fits) ?_)))
local macro_rules | `(tactic| walk_at "truthy ref") => `(tactic| (k_here; k_dflt (refine' truthy_domK (by k_asm) (by k_asm) (by k_asm) (by walk_at "lc") (by k_mem) (by k_mem) (by size_fits) ?_)))
local macro_rules | `(tactic| walk_at "getAttr ref") => `(tactic| (k_here; k_dflt (refine' getL (by k_asm) (by k_asm) (by walk_at "lc") (by k_inst) (by exact rfl) (by k_handed) ?_; k_whole)))
local macro_rules | `(tactic| walk_at "getMethod ref") => `(tactic| (k_here; k_dflt (first
  | (refine' methL_fn (by k_asm) (by k_asm) (by walk_at "lc") (by k_inst) (by k_is) (by k_is) (by k_get) ?_; k_whole)
  | (refine' methL_of (by k_asm) (by k_asm) (by walk_at "lc") (by k_inst) (by k_is) (by first | with_reducible exact PySem.F.type_list_extend | with_reducible exact PySem.F.type_list_remove) (by k_get) ?_; k_whole))))
local macro_rules | `(tactic| k_mem) => `(tactic| assumption)
local macro_rules | `(tactic| k_lt $h:ident) => `(tactic| (have hAllLt := $h; (replace $h := allLt_of $h); simp only [AllLt, and_true] at $h:ident))
local macro_rules | `(tactic| k_all) => `(tactic| (refine' lt_ne (by assumption) (by walk_at "sub")))
local macro_rules | `(tactic| is_list) => `(tactic| exact News.isList (by k_asm) (by k_mem))
local macro_rules | `(tactic| walk_at "compareOp In int ref") => `(tactic| (k_here; k_dflt (refine in_list_ints (by is_list) (by l_ints) ?_)))
local macro_rules | `(tactic| walk_at "CompEnd") => `(tactic| (refine' compEnd_at (by k_asm) (by assumption) (by (simp only [LCg.Off3, and_true]; assumption)) (by first | trivial | k_dflt (exact Or.inr ⟨_, by k_mem, rfl, _, rfl⟩)) ?_))
local macro_rules | `(tactic| k_all) => `(tactic| assumption)
local macro_rules | `(tactic| walk_at "call builtin:list.append") => `(tactic| (k_here; k_dflt (refine' append_K (by k_asm) (by k_asm) (by k_upd) ?_ (by size_fits)); intro h' F' N'; (try k_sweep)))
local macro_rules | `(tactic| walk_at "call builtin:list.pop") => `(tactic| (k_here; k_dflt (refine' pop_snoc (by k_asm) (by k_asm) (by k_upd) (by size_fits) ?_); intro h' F' N'; (try k_sweep)))
local macro_rules | `(tactic| walk_at "call builtin:list.__init__") => `(tactic| (k_here; k_dflt (refine' init_dom ?F ?X ?N ?d ?e ?U ?o ?c ?s ?z ?_; (case F | X | N => k_asm); (case U => k_upd); (case d => k_mem); (case e => k_is); (case o => exact (News.get (by k_asm) (by k_mem))); (case c | s => assumption); (case z => size_fits)); intro h' F' N'; (try k_sweep)))

section PartS1
theorem alike_spec {w : World} {h₀ : Heap} {env : Env} {L x dx l : Addr} {mg mb : PySem.Str → Option Value} {mean : ExcName → Option Value} {m : PySem.Str → Option Value} {s : Shared} {news : List (Addr × Obj)} {E : Value → Shared → Prop} {Q : Value → Shared → Prop}
    {vs us : List Value} {ns ms : List Int} {es : List DictEntry} {n c k : Nat}
    (G : Gd w h₀ env L mg mb mean) (F : Fr h₀ L s.heap m) (N : News h₀ L s.heap news) (hx : (x, domObj 264 dx vs.toArray n) ∈ news) (hd : (dx, dictOf es k) ∈ news) (hl : (l, W.listOf us.toArray c) ∈ news)
    (i1 : IntsAre vs ns) (i2 : IntsAre us ms) (hz1 : ns.length ≤ 9) (hz2 : ms.length ≤ 9) (hp : ns.Perm ms)
    (h : ∀ h' tk, Fr h₀ L h' m → News h₀ L h' news → Q (.bool true) { s with heap := h', toks := tk }) :
    wpAny (model PySem.Challenge.rw_al0016_01.row.prog w) (callerA.deeper env) (call (.ref 343) [.ref x, .ref l]) Q E s := by
  have hq1 : vs.length = ns.length := i1.length
  have hq2 : us.length = ms.length := i2.length
  have hq3 : vs.length ≤ 9 := by omega
  have hq4 : us.length ≤ 9 := by omega
  obtain ⟨B, X, T, hf, hk⟩ := G
  revert X
  k_fill
  intro X
  w_top on
  refine wpAny_call ?_
  refine' code_defC B F X N T ?kA hf hk ?k6 ?k7 ?k8 ?k9 ?kB ?kD ?_ ?c2 ?c3 ?c4
  (case kA => exact rfl)
  (case k6 => k_is)
  (case k7 => k_is); (case k8 => k_room); (case k9 => exact BindsTo.of_eq rfl)
  (case kB => exact rfl); (case kD => decide +kernel); (case c2 => exact rfl); (case c3 => exact rfl); (case c4 => exact rfl); k_whole
  intro g' L' h' tk' cells' FG' F' N' Y' B' X' T' l1; (try k_lt l1); k_cells Y'; (try simp only [List.cons_append, List.nil_append] at N'); (try dsimp only); (try k_lift B'); (try k_fold)

  (repeat' (first | (k_unfold; (try dsimp only)) | (k_end; kc_close) | (k_here; first | ((with_reducible show wpAny _ _ (call (Value.builtin "list.pop") _ _) _ _ _); first | (k_here; k_dflt (refine' pop_emptyK (by exact rfl) (by k_asm) (by k_mem) ?_; intro h' tk' e' x'))) | ((with_reducible show wpAny _ _ (call (Value.builtin "list.remove") _ _) _ _ _); first | (k_here; k_dflt (first | (refine' remove_domK ?F ?X ?N ?Y ?d ?i ?r ?U ?z ?_; (case F | X | N => k_asm); (case r | i => assumption); (case U => k_upd); (case d => k_mem); (case Y => walk_at "lc"); (case z => omega); intro h' F' N'; (try k_sweep)) | (refine' remove_outK (by exact rfl) (by k_asm) (by k_asm) (by k_asm) (by walk_at "lc") (by k_mem) (by k_mem) (by assumption) (by assumption) ?_; intro h' tk' e' x')))) | ((with_reducible show wpAny _ _ (delItem (Value.ref _) (Value.ref _)) _ _ _); first | (k_here; k_dflt (first | (refine' del_tailK (by k_asm) (by k_asm) (by omega) (by k_upd) (by omega) ?_) | (refine' del_allK (by k_asm) (by k_asm) (by k_upd) (by first | omega | exact Nat.zero_le _) ?_)); intro h' F' N'; (try k_sweep))) | ((with_reducible show wpAny _ _ (call (Value.builtin "list.extend") _ _) _ _ _); first | (k_here; k_dflt (refine' extend_domK ?F ?X ?N ?Y ?d ?U ?b ?c ?s ?z ?_; (case F | X | N => k_asm); (case U => k_upd); (case b => exact (News.get (by k_asm) (by k_mem))); (case c => first | exact .inl rfl | exact .inr rfl); (case s => rfl); (case d => k_mem); (case Y => walk_at "lc"); (case z => first | omega | (simp only [List.length_drop]; omega) | (simp only [List.length_nil]; omega))); intro h' F' N'; (try simp only [List.append_nil] at N'); (try k_sweep))) | ((with_reducible show wpAny _ _ (subscriptTail _ (PySem.Expr.Slice ..) (Value.ref _) (Value.ref _)) _ _ _); first | (k_here; (with_reducible show wpAny _ _ (subscriptTail _ (PySem.Expr.Slice (some (PySem.Expr.UnaryOp _ _ _)) none none _) (Value.ref _) (Value.ref _)) _ _ _); k_dflt (refine' slice_tailK (by k_asm) (by k_asm) (by k_mem) (by omega) (by omega) ?_ (by with_unfolding_all rfl) (by kmk_pure)); intro D' h' F' N' l1; (try k_lt l1); (try k_sweep))) | ((with_reducible show wpAny _ _ (call (Value.type "bool") _ _) _ _ _); first | (k_here; (with_reducible show wpAny _ _ (call (Value.type _) [Value.ref _]) _ _ _); k_dflt (refine' bool_domK (by k_asm) (by k_asm) (by k_asm) (by walk_at "lc") (by k_mem) (by k_mem) (by size_fits) ?_))) | ((with_reducible show wpAny _ _ (compareOp CmpOp.In (Value.int _ _) (Value.ref _)) _ _ _); first | (k_here; k_dflt (refine' in_dom (by k_asm) (by k_asm) (by k_asm) (by walk_at "lc") (by k_mem) (by k_mem) (by l_ints) ?_)))) | walk1 | (dsimp only; walk1) | (leave1; walk_say "STEP leave1"; (try dsimp only)) | fail "no step"))
  all_goals (try k_data)
  · exact (alike_len hp hq1 (by assumption)).elim
  · exact (alike_truth hp hq1 (by assumption)).elim
  · rw [alike_fold hp]
    exact h _ _ (by assumption) (newsSub (by assumption) (by intro p hp'; repeat (first | exact hp' | refine' List.Mem.tail _ ?_)))
  · exact (alike_ne hp (by assumption) (by assumption) (by assumption) (by assumption) (by assumption)).elim

end PartS1

section PartS2
theorem push_spec {w : World} {h₀ : Heap} {env : Env} {L x dx ha sa : Addr} {mg mb : PySem.Str → Option Value} {mean : ExcName → Option Value} {m : PySem.Str → Option Value} {s : Shared} {rest : List (Addr × Obj)} {E : Value → Shared → Prop} {Q : Value → Shared → Prop}
    {vs hs ss : List Value} {h1 h2 : Int} {t1 t2 : Tok} {n c1 c2 k : Nat}
    (G : Gd w h₀ env L mg mb mean) (F : Fr h₀ L s.heap m) (N : News h₀ L s.heap ((x, domObj 264 dx vs.toArray n) :: (dx, dictOf (desOf ha sa h1 h2 t1 t2) k) :: (ha, W.listOf hs.toArray c1) :: (sa, W.listOf ss.toArray c2) :: rest))
    (a1 : @Ne Nat x dx) (a2 : @Ne Nat x ha) (a3 : @Ne Nat x sa) (a4 : @Ne Nat dx ha) (a5 : @Ne Nat dx sa) (a6 : @Ne Nat ha sa) (r1 : ∀ p ∈ rest, p.1 ≠ x) (r2 : ∀ p ∈ rest, p.1 ≠ dx) (r3 : ∀ p ∈ rest, p.1 ≠ ha) (r4 : ∀ p ∈ rest, p.1 ≠ sa)
    (hz1 : vs.length ≤ 9) (hz2 : hs.length ≤ 9) (hz3 : ss.length ≤ 30)
    (h : ∀ h' tk t c, Fr h₀ L h' m → News h₀ L h' ((x, domObj 264 dx vs.toArray n) :: (dx, dictOf (desOf ha sa h1 h2 t1 t2) k) :: (ha, W.listOf hs.toArray c1) :: (sa, W.listOf (ss ++ [Value.int vs.length t]).toArray c) :: rest) → Q .none { s with heap := h', toks := tk }) :
    wpAny (model PySem.Challenge.rw_al0016_01.row.prog w) (callerA.deeper env) (call (.ref 247) [.ref x]) Q E s := by
  obtain ⟨B, X, T, hf, hk⟩ := G
  revert X
  k_fill
  intro X
  w_top on
  refine wpAny_call ?_
  refine' code_def B F X N T ?kA hf hk ?k6 ?k7 ?k8 ?k9 ?kB ?_ ?c2 ?c3 ?c4 ?c5
  (case kA => exact rfl)
  (case k6 => k_is)
  (case k7 => k_is); (case k8 => k_room); (case k9 => exact BindsTo.of_eq rfl)
  (case c5 => decide); (case kB => exact locs rfl); (case c2 => exact rfl); (case c3 => exact rfl); (case c4 => exact rfl); k_whole
  intro g' L' h' FG' F' N' B' X' T'; (try dsimp only); (try k_lift B'); (try k_fold)

  (repeat' (first | (k_unfold; (try dsimp only)) | (k_end; kc_close) | (k_here; first | ((with_reducible show wpAny _ _ (call (Value.builtin "list.pop") _ _) _ _ _); first | (k_here; k_dflt (refine' pop_emptyK (by exact rfl) (by k_asm) (by k_mem) ?_; intro h' tk' e' x'))) | ((with_reducible show wpAny _ _ (call (Value.builtin "list.remove") _ _) _ _ _); first | (k_here; k_dflt (first | (refine' remove_domK ?F ?X ?N ?Y ?d ?i ?r ?U ?z ?_; (case F | X | N => k_asm); (case r | i => assumption); (case U => k_upd); (case d => k_mem); (case Y => walk_at "lc"); (case z => omega); intro h' F' N'; (try k_sweep)) | (refine' remove_outK (by exact rfl) (by k_asm) (by k_asm) (by k_asm) (by walk_at "lc") (by k_mem) (by k_mem) (by assumption) (by assumption) ?_; intro h' tk' e' x')))) | ((with_reducible show wpAny _ _ (delItem (Value.ref _) (Value.ref _)) _ _ _); first | (k_here; k_dflt (first | (refine' del_tailK (by k_asm) (by k_asm) (by omega) (by k_upd) (by omega) ?_) | (refine' del_allK (by k_asm) (by k_asm) (by k_upd) (by first | omega | exact Nat.zero_le _) ?_)); intro h' F' N'; (try k_sweep))) | ((with_reducible show wpAny _ _ (call (Value.builtin "list.extend") _ _) _ _ _); first | (k_here; k_dflt (refine' extend_domK ?F ?X ?N ?Y ?d ?U ?b ?c ?s ?z ?_; (case F | X | N => k_asm); (case U => k_upd); (case b => exact (News.get (by k_asm) (by k_mem))); (case c => first | exact .inl rfl | exact .inr rfl); (case s => rfl); (case d => k_mem); (case Y => walk_at "lc"); (case z => first | omega | (simp only [List.length_drop]; omega) | (simp only [List.length_nil]; omega))); intro h' F' N'; (try simp only [List.append_nil] at N'); (try k_sweep))) | ((with_reducible show wpAny _ _ (subscriptTail _ (PySem.Expr.Slice ..) (Value.ref _) (Value.ref _)) _ _ _); first | (k_here; (with_reducible show wpAny _ _ (subscriptTail _ (PySem.Expr.Slice (some (PySem.Expr.UnaryOp _ _ _)) none none _) (Value.ref _) (Value.ref _)) _ _ _); k_dflt (refine' slice_tailK (by k_asm) (by k_asm) (by k_mem) (by omega) (by omega) ?_ (by with_unfolding_all rfl) (by kmk_pure)); intro D' h' F' N' l1; (try k_lt l1); (try k_sweep))) | ((with_reducible show wpAny _ _ (call (Value.type "bool") _ _) _ _ _); first | (k_here; (with_reducible show wpAny _ _ (call (Value.type _) [Value.ref _]) _ _ _); k_dflt (refine' bool_domK (by k_asm) (by k_asm) (by k_asm) (by walk_at "lc") (by k_mem) (by k_mem) (by size_fits) ?_))) | ((with_reducible show wpAny _ _ (compareOp CmpOp.In (Value.int _ _) (Value.ref _)) _ _ _); first | (k_here; k_dflt (refine' in_dom (by k_asm) (by k_asm) (by k_asm) (by walk_at "lc") (by k_mem) (by k_mem) (by l_ints) ?_)))) | walk1 | (dsimp only; walk1) | (leave1; walk_say "STEP leave1"; (try dsimp only)) | fail "no step"))
  all_goals (try k_data)
  with_reducible rename News _ _ _ _ => kN
  simp only [List.push_toArray] at kN
  exact h _ _ _ _ (by assumption) (newsSub kN (by intro p hp'; repeat (first | exact hp' | refine' List.Mem.tail _ ?_)))

end PartS2

section PartS3
theorem pop_spec {w : World} {h₀ : Heap} {env : Env} {L x dx ha sa : Addr} {mg mb : PySem.Str → Option Value} {mean : ExcName → Option Value} {m : PySem.Str → Option Value} {s : Shared} {rest : List (Addr × Obj)} {E : Value → Shared → Prop} {Q : Value → Shared → Prop}
    {vs hs ss : List Value} {ns ks : List Int} {q : Int} {h1 h2 : Int} {t t1 t2 : Tok} {n c1 c2 k : Nat}
    (G : Gd w h₀ env L mg mb mean) (F : Fr h₀ L s.heap m) (N : News h₀ L s.heap ((x, domObj 264 dx vs.toArray n) :: (dx, dictOf (desOf ha sa h1 h2 t1 t2) k) :: (ha, W.listOf hs.toArray c1) :: (sa, W.listOf (ss ++ [Value.int q t]).toArray c2) :: rest))
    (a1 : @Ne Nat x dx) (a2 : @Ne Nat x ha) (a3 : @Ne Nat x sa) (a4 : @Ne Nat dx ha) (a5 : @Ne Nat dx sa) (a6 : @Ne Nat ha sa) (r1 : ∀ p ∈ rest, p.1 ≠ x) (r2 : ∀ p ∈ rest, p.1 ≠ dx) (r3 : ∀ p ∈ rest, p.1 ≠ ha) (r4 : ∀ p ∈ rest, p.1 ≠ sa)
    (i1 : IntsAre vs ns) (i2 : IntsAre hs ks)
    (hz1 : ns.length ≤ 9) (hz2 : ks.length ≤ 9) (hz3 : ss.length ≤ 30) (hq1 : ns.length ≤ q) (hq2 : q ≤ ns.length + ks.length)
    (h : ∀ h' tk n' c' c2' vs' hs', Fr h₀ L h' m → News h₀ L h' ((x, domObj 264 dx vs'.toArray n') :: (dx, dictOf (desOf ha sa h1 h2 t1 t2) k) :: (ha, W.listOf hs'.toArray c') :: (sa, W.listOf ss.toArray c2') :: rest) →
      IntsAre vs' (ns ++ ks.drop (ks.length - (q - ns.length).toNat)) → IntsAre hs' (ks.take (ks.length - (q - ns.length).toNat)) → Q .none { s with heap := h', toks := tk }) :
    wpAny (model PySem.Challenge.rw_al0016_01.row.prog w) (callerA.deeper env) (call (.ref 254) [.ref x]) Q E s := by
  have hq3 : vs.length = ns.length := i1.length
  have hq4 : hs.length = ks.length := i2.length
  have hq5 : vs.length ≤ 9 := by omega
  have hq6 : hs.length ≤ 9 := by omega
  obtain ⟨B, X, T, hf, hk⟩ := G
  revert X
  k_fill
  intro X
  w_top on
  refine wpAny_call ?_
  refine' code_def B F X N T ?kA hf hk ?k6 ?k7 ?k8 ?k9 ?kB ?_ ?c2 ?c3 ?c4 ?c5
  (case kA => exact rfl)
  (case k6 => k_is)
  (case k7 => k_is); (case k8 => k_room); (case k9 => exact BindsTo.of_eq rfl)
  (case c5 => decide); (case kB => exact locs rfl); (case c2 => exact rfl); (case c3 => exact rfl); (case c4 => exact rfl); k_whole
  intro g' L' h' FG' F' N' B' X' T'; (try dsimp only); (try k_lift B'); (try k_fold)

  (repeat' (first | (k_unfold; (try dsimp only)) | (k_end; kc_close) | (k_here; first | ((with_reducible show wpAny _ _ (call (Value.builtin "list.pop") _ _) _ _ _); first | (k_here; k_dflt (refine' pop_emptyK (by exact rfl) (by k_asm) (by k_mem) ?_; intro h' tk' e' x'))) | ((with_reducible show wpAny _ _ (call (Value.builtin "list.remove") _ _) _ _ _); first | (k_here; k_dflt (first | (refine' remove_domK ?F ?X ?N ?Y ?d ?i ?r ?U ?z ?_; (case F | X | N => k_asm); (case r | i => assumption); (case U => k_upd); (case d => k_mem); (case Y => walk_at "lc"); (case z => omega); intro h' F' N'; (try k_sweep)) | (refine' remove_outK (by exact rfl) (by k_asm) (by k_asm) (by k_asm) (by walk_at "lc") (by k_mem) (by k_mem) (by assumption) (by assumption) ?_; intro h' tk' e' x')))) | ((with_reducible show wpAny _ _ (delItem (Value.ref _) (Value.ref _)) _ _ _); first | (k_here; k_dflt (first | (refine' del_tailK (by k_asm) (by k_asm) (by omega) (by k_upd) (by omega) ?_) | (refine' del_allK (by k_asm) (by k_asm) (by k_upd) (by first | omega | exact Nat.zero_le _) ?_)); intro h' F' N'; (try k_sweep))) | ((with_reducible show wpAny _ _ (call (Value.builtin "list.extend") _ _) _ _ _); first | (k_here; k_dflt (refine' extend_domK ?F ?X ?N ?Y ?d ?U ?b ?c ?s ?z ?_; (case F | X | N => k_asm); (case U => k_upd); (case b => exact (News.get (by k_asm) (by k_mem))); (case c => first | exact .inl rfl | exact .inr rfl); (case s => rfl); (case d => k_mem); (case Y => walk_at "lc"); (case z => first | omega | (simp only [List.length_drop]; omega) | (simp only [List.length_nil]; omega))); intro h' F' N'; (try simp only [List.append_nil] at N'); (try k_sweep))) | ((with_reducible show wpAny _ _ (subscriptTail _ (PySem.Expr.Slice ..) (Value.ref _) (Value.ref _)) _ _ _); first | (k_here; (with_reducible show wpAny _ _ (subscriptTail _ (PySem.Expr.Slice (some (PySem.Expr.UnaryOp _ _ _)) none none _) (Value.ref _) (Value.ref _)) _ _ _); k_dflt (refine' slice_tailK (by k_asm) (by k_asm) (by k_mem) (by omega) (by omega) ?_ (by with_unfolding_all rfl) (by kmk_pure)); intro D' h' F' N' l1; (try k_lt l1); (try k_sweep))) | ((with_reducible show wpAny _ _ (call (Value.type "bool") _ _) _ _ _); first | (k_here; (with_reducible show wpAny _ _ (call (Value.type _) [Value.ref _]) _ _ _); k_dflt (refine' bool_domK (by k_asm) (by k_asm) (by k_asm) (by walk_at "lc") (by k_mem) (by k_mem) (by size_fits) ?_))) | ((with_reducible show wpAny _ _ (compareOp CmpOp.In (Value.int _ _) (Value.ref _)) _ _ _); first | (k_here; k_dflt (refine' in_dom (by k_asm) (by k_asm) (by k_asm) (by walk_at "lc") (by k_mem) (by k_mem) (by l_ints) ?_)))) | walk1 | (dsimp only; walk1) | (leave1; walk_say "STEP leave1"; (try dsimp only)) | fail "no step"))
  all_goals (try k_data)
  all_goals with_reducible rename News _ _ _ _ => kN
  all_goals simp only [List.push_toArray] at kN
  · exact h _ _ _ _ _ _ _ (by assumption) (newsSub kN (by intro p hp'; repeat (first | exact hp' | refine' List.Mem.tail _ ?_))) (pop_more i1 i2) (pop_less i1 i2)
  · exact h _ _ _ _ _ _ _ (by assumption) (newsSub kN (by intro p hp'; repeat (first | exact hp' | refine' List.Mem.tail _ ?_))) (pop_same i1 i2 (by assumption)).1 (pop_same i1 i2 (by assumption)).2

end PartS3

section PartS4
theorem reset_spec {w : World} {h₀ : Heap} {env : Env} {L x dx ha sa : Addr} {mg mb : PySem.Str → Option Value} {mean : ExcName → Option Value} {m : PySem.Str → Option Value} {s : Shared} {rest : List (Addr × Obj)} {E : Value → Shared → Prop} {Q : Value → Shared → Prop}
    {vs hs ss : List Value} {ns ks : List Int} {h1 h2 : Int} {t1 t2 : Tok} {n c1 c2 k : Nat}
    (G : Gd w h₀ env L mg mb mean) (F : Fr h₀ L s.heap m) (N : News h₀ L s.heap ((x, domObj 264 dx vs.toArray n) :: (dx, dictOf (desOf ha sa h1 h2 t1 t2) k) :: (ha, W.listOf hs.toArray c1) :: (sa, W.listOf ss.toArray c2) :: rest))
    (a1 : @Ne Nat x dx) (a2 : @Ne Nat x ha) (a3 : @Ne Nat x sa) (a4 : @Ne Nat dx ha) (a5 : @Ne Nat dx sa) (a6 : @Ne Nat ha sa) (r1 : ∀ p ∈ rest, p.1 ≠ x) (r2 : ∀ p ∈ rest, p.1 ≠ dx) (r3 : ∀ p ∈ rest, p.1 ≠ ha) (r4 : ∀ p ∈ rest, p.1 ≠ sa)
    (i1 : IntsAre vs ns) (i2 : IntsAre hs ks) (hz1 : vs.length ≤ 9) (hz2 : hs.length ≤ 9) (hz3 : ss.length ≤ 31)
    (h : ∀ h' tk n' c' c2' vs', IntsAre vs' (ns ++ ks) → Fr h₀ L h' m → News h₀ L h' ((x, domObj 264 dx vs'.toArray n') :: (dx, dictOf (desOf ha sa h1 h2 t1 t2) k) :: (ha, W.listOf #[] c') :: (sa, W.listOf #[] c2') :: rest) → Q .none { s with heap := h', toks := tk }) :
    wpAny (model PySem.Challenge.rw_al0016_01.row.prog w) (callerA.deeper env) (call (.ref 240) [.ref x]) Q E s := by
  obtain ⟨B, X, T, hf, hk⟩ := G
  revert X
  k_fill
  intro X
  w_top on
  refine wpAny_call ?_
  refine' code_def B F X N T ?kA hf hk ?k6 ?k7 ?k8 ?k9 ?kB ?_ ?c2 ?c3 ?c4 ?c5
  (case kA => exact rfl)
  (case k6 => k_is)
  (case k7 => k_is); (case k8 => k_room); (case k9 => exact BindsTo.of_eq rfl)
  (case c5 => decide); (case kB => exact locs rfl); (case c2 => exact rfl); (case c3 => exact rfl); (case c4 => exact rfl); k_whole
  intro g' L' h' FG' F' N' B' X' T'; (try dsimp only); (try k_lift B'); (try k_fold)

  (repeat' (first | (k_unfold; (try dsimp only)) | (k_end; kc_close) | (k_here; first | ((with_reducible show wpAny _ _ (call (Value.builtin "list.pop") _ _) _ _ _); first | (k_here; k_dflt (refine' pop_emptyK (by exact rfl) (by k_asm) (by k_mem) ?_; intro h' tk' e' x'))) | ((with_reducible show wpAny _ _ (call (Value.builtin "list.remove") _ _) _ _ _); first | (k_here; k_dflt (first | (refine' remove_domK ?F ?X ?N ?Y ?d ?i ?r ?U ?z ?_; (case F | X | N => k_asm); (case r | i => assumption); (case U => k_upd); (case d => k_mem); (case Y => walk_at "lc"); (case z => omega); intro h' F' N'; (try k_sweep)) | (refine' remove_outK (by exact rfl) (by k_asm) (by k_asm) (by k_asm) (by walk_at "lc") (by k_mem) (by k_mem) (by assumption) (by assumption) ?_; intro h' tk' e' x')))) | ((with_reducible show wpAny _ _ (delItem (Value.ref _) (Value.ref _)) _ _ _); first | (k_here; k_dflt (first | (refine' del_tailK (by k_asm) (by k_asm) (by omega) (by k_upd) (by omega) ?_) | (refine' del_allK (by k_asm) (by k_asm) (by k_upd) (by first | omega | exact Nat.zero_le _) ?_)); intro h' F' N'; (try k_sweep))) | ((with_reducible show wpAny _ _ (call (Value.builtin "list.extend") _ _) _ _ _); first | (k_here; k_dflt (refine' extend_domK ?F ?X ?N ?Y ?d ?U ?b ?c ?s ?z ?_; (case F | X | N => k_asm); (case U => k_upd); (case b => exact (News.get (by k_asm) (by k_mem))); (case c => first | exact .inl rfl | exact .inr rfl); (case s => rfl); (case d => k_mem); (case Y => walk_at "lc"); (case z => first | omega | (simp only [List.length_drop]; omega) | (simp only [List.length_nil]; omega))); intro h' F' N'; (try simp only [List.append_nil] at N'); (try k_sweep))) | ((with_reducible show wpAny _ _ (subscriptTail _ (PySem.Expr.Slice ..) (Value.ref _) (Value.ref _)) _ _ _); first | (k_here; (with_reducible show wpAny _ _ (subscriptTail _ (PySem.Expr.Slice (some (PySem.Expr.UnaryOp _ _ _)) none none _) (Value.ref _) (Value.ref _)) _ _ _); k_dflt (refine' slice_tailK (by k_asm) (by k_asm) (by k_mem) (by omega) (by omega) ?_ (by with_unfolding_all rfl) (by kmk_pure)); intro D' h' F' N' l1; (try k_lt l1); (try k_sweep))) | ((with_reducible show wpAny _ _ (call (Value.type "bool") _ _) _ _ _); first | (k_here; (with_reducible show wpAny _ _ (call (Value.type _) [Value.ref _]) _ _ _); k_dflt (refine' bool_domK (by k_asm) (by k_asm) (by k_asm) (by walk_at "lc") (by k_mem) (by k_mem) (by size_fits) ?_))) | ((with_reducible show wpAny _ _ (compareOp CmpOp.In (Value.int _ _) (Value.ref _)) _ _ _); first | (k_here; k_dflt (refine' in_dom (by k_asm) (by k_asm) (by k_asm) (by walk_at "lc") (by k_mem) (by k_mem) (by l_ints) ?_)))) | walk1 | (dsimp only; walk1) | (leave1; walk_say "STEP leave1"; (try dsimp only)) | fail "no step"))
  all_goals (try k_data)
  all_goals with_reducible rename News _ _ _ _ => kN
  all_goals simp only [List.push_toArray] at kN
  · exact h _ _ _ _ _ _ (IntsAre.append i1 i2) (by assumption) (newsSub kN (by intro p hp'; repeat (first | exact hp' | refine' List.Mem.tail _ ?_)))

end PartS4

section PartS5
theorem hide_in {w : World} {h₀ : Heap} {L x dx ha sa : Addr} {env : Env} {mg mb : PySem.Str → Option Value} {mean : ExcName → Option Value} {m : PySem.Str → Option Value} {s : Shared} {rest : List (Addr × Obj)} {E : Value → Shared → Prop} {Q : Value → Shared → Prop}
    {vs hs : List Value} {ns : List Int} {h1 h2 : Int} {t1 t2 : Tok} {n c1 k : Nat} {v : Int} {tv : Tok}
    (G : Gd w h₀ env L mg mb mean) (F : Fr h₀ L s.heap m) (N : News h₀ L s.heap ((x, domObj 264 dx vs.toArray n) :: (dx, dictOf (desOf ha sa h1 h2 t1 t2) k) :: (ha, W.listOf hs.toArray c1) :: rest))
    (a1 : @Ne Nat x dx) (a2 : @Ne Nat x ha) (a4 : @Ne Nat dx ha) (r1 : ∀ p ∈ rest, p.1 ≠ x) (r2 : ∀ p ∈ rest, p.1 ≠ dx) (r3 : ∀ p ∈ rest, p.1 ≠ ha)
    (hi : IntsAre vs ns) (hv : v ∈ ns) (hz1 : vs.length ≤ 9) (hz2 : hs.length ≤ 9)
    (h : ∀ h' tk n' c' t vs', IntsAre vs' (ns.erase v) → Fr h₀ L h' m → News h₀ L h' ((x, domObj 264 dx vs'.toArray n') :: (dx, dictOf (desOf ha sa h1 h2 t1 t2) k) :: (ha, W.listOf (hs ++ [Value.int v t]).toArray c') :: rest) → Q (.bool true) { s with heap := h', toks := tk }) :
    wpAny (model PySem.Challenge.rw_al0016_01.row.prog w) (callerA.deeper env) (call (.ref 350) [.ref x, .int v tv]) Q E s := by
  obtain ⟨vs', hr, hi'⟩ := remAt hi hv
  obtain ⟨B, X, T, hf, hk⟩ := G
  revert X
  k_fill
  intro X
  w_top on
  refine wpAny_call ?_
  refine' code_defSG B F X N T ?kA hf hk ?k6 ?k7 ?k8 ?k9 ?kB ?_ ?c2 ?c3 ?c4 ?c5
  (case kA => exact rfl)
  (case k6 => k_is)
  (case k7 => k_is); (case k8 => k_room); (case k9 => exact BindsTo.of_eq rfl)
  (case c5 => decide); (case kB => exact locs rfl); (case c2 => exact rfl); (case c3 => exact rfl); (case c4 => exact rfl); k_whole
  intro g' L' h' FG' F' N' B' X' T' D'; (try dsimp only); (try k_lift B'); (try k_fold)

  (repeat' (first | (k_unfold; (try dsimp only)) | (k_end; kc_close) | (k_here; first | ((with_reducible show wpAny _ _ (call (Value.builtin "list.pop") _ _) _ _ _); first | (k_here; k_dflt (refine' pop_emptyK (by exact rfl) (by k_asm) (by k_mem) ?_; intro h' tk' e' x'))) | ((with_reducible show wpAny _ _ (call (Value.builtin "list.remove") _ _) _ _ _); first | (k_here; k_dflt (first | (refine' remove_domK ?F ?X ?N ?Y ?d ?i ?r ?U ?z ?_; (case F | X | N => k_asm); (case r | i => assumption); (case U => k_upd); (case d => k_mem); (case Y => walk_at "lc"); (case z => omega); intro h' F' N'; (try k_sweep)) | (refine' remove_outK (by exact rfl) (by k_asm) (by k_asm) (by k_asm) (by walk_at "lc") (by k_mem) (by k_mem) (by assumption) (by assumption) ?_; intro h' tk' e' x')))) | ((with_reducible show wpAny _ _ (delItem (Value.ref _) (Value.ref _)) _ _ _); first | (k_here; k_dflt (first | (refine' del_tailK (by k_asm) (by k_asm) (by omega) (by k_upd) (by omega) ?_) | (refine' del_allK (by k_asm) (by k_asm) (by k_upd) (by first | omega | exact Nat.zero_le _) ?_)); intro h' F' N'; (try k_sweep))) | ((with_reducible show wpAny _ _ (call (Value.builtin "list.extend") _ _) _ _ _); first | (k_here; k_dflt (refine' extend_domK ?F ?X ?N ?Y ?d ?U ?b ?c ?s ?z ?_; (case F | X | N => k_asm); (case U => k_upd); (case b => exact (News.get (by k_asm) (by k_mem))); (case c => first | exact .inl rfl | exact .inr rfl); (case s => rfl); (case d => k_mem); (case Y => walk_at "lc"); (case z => first | omega | (simp only [List.length_drop]; omega) | (simp only [List.length_nil]; omega))); intro h' F' N'; (try simp only [List.append_nil] at N'); (try k_sweep))) | ((with_reducible show wpAny _ _ (subscriptTail _ (PySem.Expr.Slice ..) (Value.ref _) (Value.ref _)) _ _ _); first | (k_here; (with_reducible show wpAny _ _ (subscriptTail _ (PySem.Expr.Slice (some (PySem.Expr.UnaryOp _ _ _)) none none _) (Value.ref _) (Value.ref _)) _ _ _); k_dflt (refine' slice_tailK (by k_asm) (by k_asm) (by k_mem) (by omega) (by omega) ?_ (by with_unfolding_all rfl) (by kmk_pure)); intro D' h' F' N' l1; (try k_lt l1); (try k_sweep))) | ((with_reducible show wpAny _ _ (call (Value.type "bool") _ _) _ _ _); first | (k_here; (with_reducible show wpAny _ _ (call (Value.type _) [Value.ref _]) _ _ _); k_dflt (refine' bool_domK (by k_asm) (by k_asm) (by k_asm) (by walk_at "lc") (by k_mem) (by k_mem) (by size_fits) ?_))) | ((with_reducible show wpAny _ _ (compareOp CmpOp.In (Value.int _ _) (Value.ref _)) _ _ _); first | (k_here; k_dflt (refine' in_dom (by k_asm) (by k_asm) (by k_asm) (by walk_at "lc") (by k_mem) (by k_mem) (by l_ints) ?_)))) | walk1 | (dsimp only; walk1) | (leave1; walk_say "STEP leave1"; (try dsimp only)) | fail "no step"))
  all_goals (try k_data)
  with_reducible rename News _ _ _ _ => kN
  simp only [List.push_toArray] at kN
  exact h _ _ _ _ _ _ hi' (by assumption) (newsSub kN (by intro p hp'; repeat (first | exact hp' | refine' List.Mem.tail _ ?_)))

end PartS5

section PartS6
theorem hide_out {w : World} {h₀ : Heap} {L x dx ha sa : Addr} {env : Env} {mg mb : PySem.Str → Option Value} {mean : ExcName → Option Value} {m : PySem.Str → Option Value} {s : Shared} {rest : List (Addr × Obj)} {E : Value → Shared → Prop} {Q : Value → Shared → Prop}
    {vs hs : List Value} {ns : List Int} {h1 h2 : Int} {t1 t2 : Tok} {n c1 k : Nat} {v : Int} {tv : Tok}
    (G : Gd w h₀ env L mg mb mean) (F : Fr h₀ L s.heap m) (N : News h₀ L s.heap ((x, domObj 264 dx vs.toArray n) :: (dx, dictOf (desOf ha sa h1 h2 t1 t2) k) :: rest))
    (a1 : @Ne Nat x dx) (r1 : ∀ p ∈ rest, p.1 ≠ x) (r2 : ∀ p ∈ rest, p.1 ≠ dx)
    (hi : IntsAre vs ns) (hv : v ∉ ns)
    (h : ∀ h' tk, Fr h₀ L h' m → News h₀ L h' ((x, domObj 264 dx vs.toArray n) :: (dx, dictOf (desOf ha sa h1 h2 t1 t2) k) :: rest) → Q (.bool false) { s with heap := h', toks := tk }) :
    wpAny (model PySem.Challenge.rw_al0016_01.row.prog w) (callerA.deeper env) (call (.ref 350) [.ref x, .int v tv]) Q E s := by
  obtain ⟨B, X, T, hf, hk⟩ := G
  revert X
  k_fill
  intro X
  w_top on
  refine wpAny_call ?_
  refine' code_defSG B F X N T ?kA hf hk ?k6 ?k7 ?k8 ?k9 ?kB ?_ ?c2 ?c3 ?c4 ?c5
  (case kA => exact rfl)
  (case k6 => k_is)
  (case k7 => k_is); (case k8 => k_room); (case k9 => exact BindsTo.of_eq rfl)
  (case c5 => decide); (case kB => exact locs rfl); (case c2 => exact rfl); (case c3 => exact rfl); (case c4 => exact rfl); k_whole
  intro g' L' h' FG' F' N' B' X' T' D'; (try dsimp only); (try k_lift B'); (try k_fold)

  (repeat' (first | (k_unfold; (try dsimp only)) | (k_end; kc_close) | (k_here; first | ((with_reducible show wpAny _ _ (call (Value.builtin "list.pop") _ _) _ _ _); first | (k_here; k_dflt (refine' pop_emptyK (by exact rfl) (by k_asm) (by k_mem) ?_; intro h' tk' e' x'))) | ((with_reducible show wpAny _ _ (call (Value.builtin "list.remove") _ _) _ _ _); first | (k_here; k_dflt (first | (refine' remove_domK ?F ?X ?N ?Y ?d ?i ?r ?U ?z ?_; (case F | X | N => k_asm); (case r | i => assumption); (case U => k_upd); (case d => k_mem); (case Y => walk_at "lc"); (case z => omega); intro h' F' N'; (try k_sweep)) | (refine' remove_outK (by exact rfl) (by k_asm) (by k_asm) (by k_asm) (by walk_at "lc") (by k_mem) (by k_mem) (by assumption) (by assumption) ?_; intro h' tk' e' x')))) | ((with_reducible show wpAny _ _ (delItem (Value.ref _) (Value.ref _)) _ _ _); first | (k_here; k_dflt (first | (refine' del_tailK (by k_asm) (by k_asm) (by omega) (by k_upd) (by omega) ?_) | (refine' del_allK (by k_asm) (by k_asm) (by k_upd) (by first | omega | exact Nat.zero_le _) ?_)); intro h' F' N'; (try k_sweep))) | ((with_reducible show wpAny _ _ (call (Value.builtin "list.extend") _ _) _ _ _); first | (k_here; k_dflt (refine' extend_domK ?F ?X ?N ?Y ?d ?U ?b ?c ?s ?z ?_; (case F | X | N => k_asm); (case U => k_upd); (case b => exact (News.get (by k_asm) (by k_mem))); (case c => first | exact .inl rfl | exact .inr rfl); (case s => rfl); (case d => k_mem); (case Y => walk_at "lc"); (case z => first | omega | (simp only [List.length_drop]; omega) | (simp only [List.length_nil]; omega))); intro h' F' N'; (try simp only [List.append_nil] at N'); (try k_sweep))) | ((with_reducible show wpAny _ _ (subscriptTail _ (PySem.Expr.Slice ..) (Value.ref _) (Value.ref _)) _ _ _); first | (k_here; (with_reducible show wpAny _ _ (subscriptTail _ (PySem.Expr.Slice (some (PySem.Expr.UnaryOp _ _ _)) none none _) (Value.ref _) (Value.ref _)) _ _ _); k_dflt (refine' slice_tailK (by k_asm) (by k_asm) (by k_mem) (by omega) (by omega) ?_ (by with_unfolding_all rfl) (by kmk_pure)); intro D' h' F' N' l1; (try k_lt l1); (try k_sweep))) | ((with_reducible show wpAny _ _ (call (Value.type "bool") _ _) _ _ _); first | (k_here; (with_reducible show wpAny _ _ (call (Value.type _) [Value.ref _]) _ _ _); k_dflt (refine' bool_domK (by k_asm) (by k_asm) (by k_asm) (by walk_at "lc") (by k_mem) (by k_mem) (by size_fits) ?_))) | ((with_reducible show wpAny _ _ (compareOp CmpOp.In (Value.int _ _) (Value.ref _)) _ _ _); first | (k_here; k_dflt (refine' in_dom (by k_asm) (by k_asm) (by k_asm) (by walk_at "lc") (by k_mem) (by k_mem) (by l_ints) ?_)))) | walk1 | (dsimp only; walk1) | (leave1; walk_say "STEP leave1"; (try dsimp only)) | fail "no step"))
  all_goals (try k_data)
  with_reducible rename News _ _ _ _ => kN
  exact h _ _ (by assumption) (newsSub kN (by intro p hp'; repeat (first | exact hp' | refine' List.Mem.tail _ ?_)))

end PartS6

section PartS7
theorem empty_pop {w : World} {h₀ : Heap} {L x dx ha sa : Addr} {env : Env} {mg mb : PySem.Str → Option Value} {mean : ExcName → Option Value} {m : PySem.Str → Option Value} {s : Shared} {rest : List (Addr × Obj)} {E : Value → Shared → Prop} {Q : Value → Shared → Prop}
    {vs hs : List Value} {h1 h2 : Int} {t1 t2 : Tok} {n c1 c2 k : Nat}
    (G : Gd w h₀ env L mg mb mean) (F : Fr h₀ L s.heap m) (N : News h₀ L s.heap ((x, domObj 264 dx vs.toArray n) :: (dx, dictOf (desOf ha sa h1 h2 t1 t2) k) :: (ha, W.listOf hs.toArray c2) :: (sa, W.listOf #[] c1) :: rest))
    (a1 : @Ne Nat x dx) (r1 : ∀ p ∈ rest, p.1 ≠ x) (r2 : ∀ p ∈ rest, p.1 ≠ dx)

    (h : ∀ h' tk, Fr h₀ L h' m → News h₀ L h' ((x, domObj 264 dx vs.toArray n) :: (dx, dictOf (desOf ha sa h1 h2 t1 t2) k) :: (ha, W.listOf hs.toArray c2) :: (sa, W.listOf #[] c1) :: rest) → Q (.bool true) { s with heap := h', toks := tk }) :
    wpAny (model PySem.Challenge.rw_al0016_01.row.prog w) (callerA.deeper env) (call (.ref 357) [.ref x]) Q E s := by
  obtain ⟨B, X, T, hf, hk⟩ := G
  revert X
  k_fill
  intro X
  w_top on
  refine wpAny_call ?_
  refine' code_defSG B F X N T ?kA hf hk ?k6 ?k7 ?k8 ?k9 ?kB ?_ ?c2 ?c3 ?c4 ?c5
  (case kA => exact rfl)
  (case k6 => k_is)
  (case k7 => k_is); (case k8 => k_room); (case k9 => exact BindsTo.of_eq rfl)
  (case c5 => decide); (case kB => exact locs rfl); (case c2 => exact rfl); (case c3 => exact rfl); (case c4 => exact rfl); k_whole
  intro g' L' h' FG' F' N' B' X' T' D'; (try dsimp only); (try k_lift B'); (try k_fold)

  (repeat' (first | (k_unfold; (try dsimp only)) | (k_end; kc_close) | (k_here; first | ((with_reducible show wpAny _ _ (call (Value.builtin "list.pop") _ _) _ _ _); first | (k_here; k_dflt (refine' pop_emptyK (by exact rfl) (by k_asm) (by k_mem) ?_; intro h' tk' e' x'))) | ((with_reducible show wpAny _ _ (call (Value.builtin "list.remove") _ _) _ _ _); first | (k_here; k_dflt (first | (refine' remove_domK ?F ?X ?N ?Y ?d ?i ?r ?U ?z ?_; (case F | X | N => k_asm); (case r | i => assumption); (case U => k_upd); (case d => k_mem); (case Y => walk_at "lc"); (case z => omega); intro h' F' N'; (try k_sweep)) | (refine' remove_outK (by exact rfl) (by k_asm) (by k_asm) (by k_asm) (by walk_at "lc") (by k_mem) (by k_mem) (by assumption) (by assumption) ?_; intro h' tk' e' x')))) | ((with_reducible show wpAny _ _ (delItem (Value.ref _) (Value.ref _)) _ _ _); first | (k_here; k_dflt (first | (refine' del_tailK (by k_asm) (by k_asm) (by omega) (by k_upd) (by omega) ?_) | (refine' del_allK (by k_asm) (by k_asm) (by k_upd) (by first | omega | exact Nat.zero_le _) ?_)); intro h' F' N'; (try k_sweep))) | ((with_reducible show wpAny _ _ (call (Value.builtin "list.extend") _ _) _ _ _); first | (k_here; k_dflt (refine' extend_domK ?F ?X ?N ?Y ?d ?U ?b ?c ?s ?z ?_; (case F | X | N => k_asm); (case U => k_upd); (case b => exact (News.get (by k_asm) (by k_mem))); (case c => first | exact .inl rfl | exact .inr rfl); (case s => rfl); (case d => k_mem); (case Y => walk_at "lc"); (case z => first | omega | (simp only [List.length_drop]; omega) | (simp only [List.length_nil]; omega))); intro h' F' N'; (try simp only [List.append_nil] at N'); (try k_sweep))) | ((with_reducible show wpAny _ _ (subscriptTail _ (PySem.Expr.Slice ..) (Value.ref _) (Value.ref _)) _ _ _); first | (k_here; (with_reducible show wpAny _ _ (subscriptTail _ (PySem.Expr.Slice (some (PySem.Expr.UnaryOp _ _ _)) none none _) (Value.ref _) (Value.ref _)) _ _ _); k_dflt (refine' slice_tailK (by k_asm) (by k_asm) (by k_mem) (by omega) (by omega) ?_ (by with_unfolding_all rfl) (by kmk_pure)); intro D' h' F' N' l1; (try k_lt l1); (try k_sweep))) | ((with_reducible show wpAny _ _ (call (Value.type "bool") _ _) _ _ _); first | (k_here; (with_reducible show wpAny _ _ (call (Value.type _) [Value.ref _]) _ _ _); k_dflt (refine' bool_domK (by k_asm) (by k_asm) (by k_asm) (by walk_at "lc") (by k_mem) (by k_mem) (by size_fits) ?_))) | ((with_reducible show wpAny _ _ (compareOp CmpOp.In (Value.int _ _) (Value.ref _)) _ _ _); first | (k_here; k_dflt (refine' in_dom (by k_asm) (by k_asm) (by k_asm) (by walk_at "lc") (by k_mem) (by k_mem) (by l_ints) ?_)))) | walk1 | (dsimp only; walk1) | (leave1; walk_say "STEP leave1"; (try dsimp only)) | fail "no step"))
  all_goals (try k_data)
  with_reducible rename News _ _ _ _ => kN
  exact h _ _ (by assumption) (newsSub kN (by intro p hp'; repeat (first | exact hp' | refine' List.Mem.tail _ ?_)))

end PartS7

section PartD18
open PySem PySem.Calls PySem.W PyProof.Rows Builtin
set_option maxRecDepth 100000
set_option maxHeartbeats 4000000
theorem offCons {b d : Addr} {o : Obj} {rest : List (Addr × Obj)} (h : @Ne Nat b d) (r : ∀ p ∈ rest, p.1 ≠ d) : ∀ p ∈ (b, o) :: rest, p.1 ≠ d := fun p hp => by
  rcases List.mem_cons.mp hp with rfl | hp
  · exact h
  · exact r p hp

theorem hide_any {w : World} {h₀ : Heap} {L x dx ha sa : Addr} {env : Env} {mg mb : PySem.Str → Option Value} {mean : ExcName → Option Value} {m : PySem.Str → Option Value} {s : Shared} {rest : List (Addr × Obj)} {E : Value → Shared → Prop} {Q : Value → Shared → Prop}
    {vs hs : List Value} {ns : List Int} {h1 h2 : Int} {t1 t2 : Tok} {n c1 k : Nat} {v : Int} {tv : Tok}
    (G : Gd w h₀ env L mg mb mean) (F : Fr h₀ L s.heap m) (N : News h₀ L s.heap ((x, domObj 264 dx vs.toArray n) :: (dx, dictOf (desOf ha sa h1 h2 t1 t2) k) :: (ha, W.listOf hs.toArray c1) :: rest))
    (a1 : @Ne Nat x dx) (a2 : @Ne Nat x ha) (a4 : @Ne Nat dx ha) (r1 : ∀ p ∈ rest, p.1 ≠ x) (r2 : ∀ p ∈ rest, p.1 ≠ dx) (r3 : ∀ p ∈ rest, p.1 ≠ ha)
    (hi : IntsAre vs ns) (hz1 : vs.length ≤ 9) (hz2 : hs.length ≤ 9)
    (hin : ∀ h' tk n' c' t vs', v ∈ ns → IntsAre vs' (ns.erase v) → Fr h₀ L h' m → News h₀ L h' ((x, domObj 264 dx vs'.toArray n') :: (dx, dictOf (desOf ha sa h1 h2 t1 t2) k) :: (ha, W.listOf (hs ++ [Value.int v t]).toArray c') :: rest) → Q (.bool true) { s with heap := h', toks := tk })
    (hout : ∀ h' tk, v ∉ ns → Fr h₀ L h' m → News h₀ L h' ((x, domObj 264 dx vs.toArray n) :: (dx, dictOf (desOf ha sa h1 h2 t1 t2) k) :: (ha, W.listOf hs.toArray c1) :: rest) → Q (.bool false) { s with heap := h', toks := tk }) :
    wpAny (model PySem.Challenge.rw_al0016_01.row.prog w) (callerA.deeper env) (call (.ref 350) [.ref x, .int v tv]) Q E s := by
  rcases Classical.em (v ∈ ns) with hv | hv
  · exact hide_in G F N a1 a2 a4 r1 r2 r3 hi hv hz1 hz2 fun h' tk n' c' t vs' hi' F' N' => hin h' tk n' c' t vs' hv hi' F' N'
  · exact hide_out (c1 := c1) (hs := hs) G F N a1 (offCons a2.symm r1) (offCons a4.symm r2) hi hv fun h' tk F' N' => hout h' tk hv F' N'
theorem Good.hideOut' {G D H M : List Int} {st : List (Int × List Int)} {v : Int} (g : Good G D H M st) (hv : v ∉ D) : Good G D H (M.filter (fun x => decide (x ≠ v))) st := by rw [g.hideOut hv]; exact g
end PartD18

section PartD19
open PySem PySem.Calls PySem.W PyProof.Rows Builtin
set_option maxRecDepth 100000
set_option maxHeartbeats 4000000
theorem any_mem (l : List Int) (v : Int) : (l.any fun x => x == v) = decide (v ∈ l) := by
  by_cases h : v ∈ l
  · simp [h]
  · simp [h]
    intro x hx e
    exact h (e ▸ hx)
theorem hide_bad1 {D M : List Int} {v : Int} (pm : D.Perm M) (hv : v ∈ D) (h : (true != M.any fun x => x == v) = true) : False := by
  rw [any_mem, decide_eq_true (pm.mem_iff.mp hv)] at h
  cases h
theorem hide_bad0 {D M : List Int} {v : Int} (pm : D.Perm M) (hv : v ∉ D) (h : (false != M.any fun x => x == v) = true) : False := by
  rw [any_mem, decide_eq_false (fun z => hv (pm.mem_iff.mpr z))] at h
  cases h
theorem off1_ne {D : Addr} : ∀ {l : List (Addr × Obj)}, LCg.Off1 D l → ∀ p ∈ l, p.1 ≠ D
  | [], _, p, hp => nomatch hp
  | q :: r, h, p, hp => by
    rcases List.mem_cons.mp hp with rfl | hp
    · exact h.1
    · exact off1_ne h.2 p hp
theorem allLt_ne {D : Addr} : ∀ {l : List (Addr × Obj)}, AllLt D l → ∀ p ∈ l, p.1 ≠ D
  | [], _, p, hp => nomatch hp
  | q :: r, h, p, hp => by
    rcases List.mem_cons.mp hp with rfl | hp
    · exact Nat.ne_of_lt h.1
    · exact allLt_ne h.2 p hp
theorem offNil {d : Addr} : ∀ p ∈ ([] : List (Addr × Obj)), p.1 ≠ d := fun _ h => nomatch h
theorem offOne {b d : Addr} {o : Obj} (h : @Ne Nat b d) : ∀ p ∈ [(b, o)], p.1 ≠ d := offCons h offNil

section
variable {h₀ : Heap} {L x dx ha sa cv gv kv sv hv : Addr} {h1 h2 : Int} {t1 t2 : Tok} {kk cg ck c4 i tk : Nat} {ys : List Value} {gs D H M : List Int} {st : List (Int × List Int)} {vs hs ss ws us : List Value} {ocv : Obj} {m₁ : PySem.Str → Option Value} {rest rest' : List (Addr × Obj)}
  {h' : Heap} {m' : PySem.Str → Option Value} {led : List (Addr × Obj)} {n' c1' c2' c3' : Nat} {ocv' : Obj} {u : Option Value} {s₁ : Shared} {Q : Flow → Shared → Prop}

theorem turn_fin {sv' hv' : Addr} {D' H' M' : List Int} {st' : List (Int × List Int)} {vs' hs' ss' ws' us' : List Value} {c4' : Nat} {extra : List (Addr × Obj)}
    (P : LIP x dx ha sa cv gv kv sv hv ys cg ck c4 gs D H M st vs hs ss ws us ocv i m₁ rest) (hsub : ∀ p ∈ rest, p ∈ rest') (F : Fr h₀ L h' m') (N : News h₀ L h' led)
    (mx : (x, domObj 264 dx vs'.toArray n') ∈ led) (mdx : (dx, dictOf (desOf ha sa h1 h2 t1 t2) kk) ∈ led) (mha : (ha, PySem.W.listOf hs'.toArray c1') ∈ led) (msa : (sa, PySem.W.listOf ss'.toArray c2') ∈ led) (msv : (sv', PySem.W.listOf ws'.toArray c3') ∈ led)
    (mcv : (cv, ocv') ∈ led) (hr : ∀ p ∈ rest', p ∈ led) (he : ∀ p ∈ extra, p ∈ led)
    (g : Good gs D' H' M' st') (i1 : IntsAre vs' D') (i2 : IntsAre hs' H') (i3 : IntsAre us' M') (i4 : IntsAre ss' (st'.map (·.1)).reverse) (i5 : SavedAre (extra ++ rest) ws' (st'.map (·.2)).reverse) (hl : st'.length ≤ i + 1) (hc : ocv'.data = .cell u)
    (mh : (hv', PySem.W.listOf us'.toArray c4') ∈ extra ++ rest)
    (o : ∀ q ∈ extra, ∀ p ∈ rest', q.1 ≠ p.1) (ox : ∀ q ∈ extra, q.1 ≠ x) (odx : ∀ q ∈ extra, q.1 ≠ dx) (oha : ∀ q ∈ extra, q.1 ≠ ha) (osa : ∀ q ∈ extra, q.1 ≠ sa) (osv : ∀ q ∈ extra, q.1 ≠ sv') (ocv : ∀ q ∈ extra, q.1 ≠ cv)
    (r : ∀ p ∈ rest', p.1 ≠ sv') (n1 : @Ne Nat sv' x) (n2 : @Ne Nat sv' dx) (n3 : @Ne Nat sv' ha) (n4 : @Ne Nat sv' sa) (n5 : @Ne Nat sv' cv)
    (vd : m' (PySem.Str.ofString "domain") = some (.ref x)) (vg : m' (PySem.Str.ofString "given") = some (.ref gv)) (vk : m' (PySem.Str.ofString "kept") = some (.ref kv)) (vh : m' (PySem.Str.ofString "held") = some (.ref hv')) (vv : m' (PySem.Str.ofString "saved") = some (.ref sv')) :
    TurnPostL h₀ L x dx ha sa cv gv kv h1 h2 t1 t2 kk ys cg ck gs rest rest' (i + 1) s₁ Q .next { s₁ with heap := h', toks := tk } := by
  have app : ∀ {d : Addr}, (∀ q ∈ extra, q.1 ≠ d) → (∀ p ∈ rest, p.1 ≠ d) → ∀ p ∈ extra ++ rest, p.1 ≠ d := fun a b p hp => (List.mem_append.mp hp).elim (a p) (b p)
  refine ⟨h', tk, m', sv', hv', D', H', M', st', vs', hs', ss', ws', us', n', c1', c2', c3', c4', ocv', extra, rfl, F, newsSub N ?_, o, r,
    ⟨g, i1, i2, i3, i4, i5, hl, ⟨u, hc⟩, List.mem_append_right _ P.mg, List.mem_append_right _ P.mkv, mh, app ox P.rx, app odx P.rdx, app oha P.rha, app osa P.rsa, app osv (fun p hp => r p (hsub p hp)), app ocv P.rcv, n1, n2, n3, n4, n5, vd, vg, vk, vh, vv⟩⟩
  intro p hp
  unfold Canon at hp
  rcases List.mem_cons.mp hp with rfl | hp
  · exact mx
  rcases List.mem_cons.mp hp with rfl | hp
  · exact mdx
  rcases List.mem_cons.mp hp with rfl | hp
  · exact mha
  rcases List.mem_cons.mp hp with rfl | hp
  · exact msa
  rcases List.mem_cons.mp hp with rfl | hp
  · exact msv
  rcases List.mem_cons.mp hp with rfl | hp
  · exact mcv
  exact (List.mem_append.mp hp).elim (he p) (hr p)

theorem push_ints {l : List Int} {t : Tok} (i : IntsAre vs D) (j : IntsAre ss l) : IntsAre (ss ++ [Value.int (vs.length : Int) t]) (l ++ [((D.length : Nat) : Int)]) := by
  rw [i.length]
  exact IntsAre.append j (.cons _ _ .nil)
theorem SavedAre.more {extra : List (Addr × Obj)} {Ws : List (List Int)} (h : SavedAre rest ws Ws) : SavedAre (extra ++ rest) ws Ws := h.sub fun _ hp => List.mem_append_right _ hp

/-- the state saved -/
theorem fin_push {d : Addr} {c t : Nat}
    (P : LIP x dx ha sa cv gv kv sv hv ys cg ck c4 gs D H M st vs hs ss ws us ocv i m₁ rest) (hsub : ∀ p ∈ rest, p ∈ rest') (F : Fr h₀ L h' m') (N : News h₀ L h' led) (g : Good gs D H M (((D.length : Nat), M) :: st))
    (mx : (x, domObj 264 dx vs.toArray n') ∈ led) (mdx : (dx, dictOf (desOf ha sa h1 h2 t1 t2) kk) ∈ led) (mha : (ha, PySem.W.listOf hs.toArray c1') ∈ led) (msa : (sa, PySem.W.listOf (ss ++ [Value.int (vs.length : Int) t]).toArray c2') ∈ led) (msv : (sv, PySem.W.listOf (ws ++ [Value.ref d]).toArray c3') ∈ led)
    (mcv : (cv, ocv') ∈ led) (hr : ∀ p ∈ rest', p ∈ led) (md : (d, PySem.W.listOf us.toArray c) ∈ led) (hc : ocv'.data = .cell u)
    (o : ∀ p ∈ rest', p.1 ≠ d) (o1 : @Ne Nat d x) (o2 : @Ne Nat d dx) (o3 : @Ne Nat d ha) (o4 : @Ne Nat d sa) (o5 : @Ne Nat d sv) (o6 : @Ne Nat d cv) (r : ∀ p ∈ rest', p.1 ≠ sv)
    (vd : m' (PySem.Str.ofString "domain") = some (.ref x)) (vg : m' (PySem.Str.ofString "given") = some (.ref gv)) (vk : m' (PySem.Str.ofString "kept") = some (.ref kv)) (vh : m' (PySem.Str.ofString "held") = some (.ref hv)) (vv : m' (PySem.Str.ofString "saved") = some (.ref sv)) :
    TurnPostL h₀ L x dx ha sa cv gv kv h1 h2 t1 t2 kk ys cg ck gs rest rest' (i + 1) s₁ Q .next { s₁ with heap := h', toks := tk } :=
  turn_fin (extra := [(d, PySem.W.listOf us.toArray c)]) P hsub F N mx mdx mha msa msv mcv hr (fun p hp => by rw [List.mem_singleton.mp hp]; exact md) g P.ivs P.ihs P.ius
    (by rw [List.map_cons, List.reverse_cons]; exact push_ints P.ivs P.iss) (by rw [List.map_cons, List.reverse_cons]; exact .snoc P.iws.more (.head _) P.ius) (by rw [List.length_cons]; exact Nat.succ_le_succ P.len) hc (.tail _ P.mh)
    (fun q hq p hp => by rw [List.mem_singleton.mp hq]; exact (o p hp).symm) (offOne o1) (offOne o2) (offOne o3) (offOne o4) (offOne o5) (offOne o6) r P.n1 P.n2 P.n3 P.n4 P.n5 vd vg vk vh vv

/-- nothing changed -/
theorem fin_same
    (P : LIP x dx ha sa cv gv kv sv hv ys cg ck c4 gs D H M st vs hs ss ws us ocv i m₁ rest) (hsub : ∀ p ∈ rest, p ∈ rest') (F : Fr h₀ L h' m') (N : News h₀ L h' led)
    (vd : m' (PySem.Str.ofString "domain") = some (.ref x)) (vg : m' (PySem.Str.ofString "given") = some (.ref gv)) (vk : m' (PySem.Str.ofString "kept") = some (.ref kv)) (vh : m' (PySem.Str.ofString "held") = some (.ref hv)) (vv : m' (PySem.Str.ofString "saved") = some (.ref sv))
    (mx : (x, domObj 264 dx vs.toArray n') ∈ led) (mdx : (dx, dictOf (desOf ha sa h1 h2 t1 t2) kk) ∈ led) (mha : (ha, PySem.W.listOf hs.toArray c1') ∈ led) (msa : (sa, PySem.W.listOf ss.toArray c2') ∈ led) (msv : (sv, PySem.W.listOf ws.toArray c3') ∈ led)
    (mcv : (cv, ocv') ∈ led) (hr : ∀ p ∈ rest', p ∈ led) (hc : ocv'.data = .cell u) (r : ∀ p ∈ rest', p.1 ≠ sv)
     :
    TurnPostL h₀ L x dx ha sa cv gv kv h1 h2 t1 t2 kk ys cg ck gs rest rest' (i + 1) s₁ Q .next { s₁ with heap := h', toks := tk } :=
  turn_fin (extra := []) P hsub F N mx mdx mha msa msv mcv hr (fun p hp => nomatch hp) P.good P.ivs P.ihs P.ius P.iss P.iws (Nat.le_succ_of_le P.len) hc P.mh
    (fun q hq => nomatch hq) offNil offNil offNil offNil offNil offNil r P.n1 P.n2 P.n3 P.n4 P.n5 vd vg vk vh vv

/-- the last saved state taken back -/
theorem fin_pop {q : Int} {W : List Int} {a : Addr} {us' vs' hs' : List Value} {cW : Nat} {tq : Tok}
    (P : LIP x dx ha sa cv gv kv sv hv ys cg ck c4 gs D H M ((q, W) :: st) vs hs (ss ++ [Value.int q tq]) (ws ++ [Value.ref a]) us ocv i m₁ rest) (hsub : ∀ p ∈ rest, p ∈ rest') (F : Fr h₀ L h' m') (N : News h₀ L h' led)
    (i1 : IntsAre vs' (D ++ H.drop (cutAt D H q))) (i2 : IntsAre hs' (H.take (cutAt D H q))) (iss : IntsAre ss (st.map (·.1)).reverse) (iws : SavedAre rest ws (st.map (·.2)).reverse) (vd : m' (PySem.Str.ofString "domain") = some (.ref x)) (vg : m' (PySem.Str.ofString "given") = some (.ref gv)) (vk : m' (PySem.Str.ofString "kept") = some (.ref kv)) (vh : m' (PySem.Str.ofString "held") = some (.ref a)) (vv : m' (PySem.Str.ofString "saved") = some (.ref sv))
    (ma : (a, PySem.W.listOf us'.toArray cW) ∈ rest) (ia : IntsAre us' W)
    (mx : (x, domObj 264 dx vs'.toArray n') ∈ led) (mdx : (dx, dictOf (desOf ha sa h1 h2 t1 t2) kk) ∈ led) (mha : (ha, PySem.W.listOf hs'.toArray c1') ∈ led) (msa : (sa, PySem.W.listOf ss.toArray c2') ∈ led) (msv : (sv, PySem.W.listOf ws.toArray c3') ∈ led)
    (mcv : (cv, ocv') ∈ led) (hr : ∀ p ∈ rest', p ∈ led) (hc : ocv'.data = .cell u) (r : ∀ p ∈ rest', p.1 ≠ sv)
     :
    TurnPostL h₀ L x dx ha sa cv gv kv h1 h2 t1 t2 kk ys cg ck gs rest rest' (i + 1) s₁ Q .next { s₁ with heap := h', toks := tk } :=
  turn_fin (extra := []) P hsub F N mx mdx mha msa msv mcv hr (fun p hp => nomatch hp) P.good.pop i1 i2 ia iss iws (by have := P.len; rw [List.length_cons] at this; omega) hc ma
    (fun q hq => nomatch hq) offNil offNil offNil offNil offNil offNil r P.n1 P.n2 P.n3 P.n4 P.n5 vd vg vk vh vv

/-- a number hidden -/
theorem fin_hideIn {d : Addr} {v : Int} {ys' vs' : List Value} {c t : Nat}
    (P : LIP x dx ha sa cv gv kv sv hv ys cg ck c4 gs D H M st vs hs ss ws us ocv i m₁ rest) (hsub : ∀ p ∈ rest, p ∈ rest') (F : Fr h₀ L h' m') (N : News h₀ L h' led) (hG : gs.Nodup) (hv' : v ∈ D)
    (i1 : IntsAre vs' (D.erase v)) (i3 : IntsAre ys' (List.foldl (fun l' k' => if ¬k' = v then l' ++ [k'] else l') [] M))
    (mx : (x, domObj 264 dx vs'.toArray n') ∈ led) (mdx : (dx, dictOf (desOf ha sa h1 h2 t1 t2) kk) ∈ led) (mha : (ha, PySem.W.listOf (hs ++ [Value.int v t]).toArray c1') ∈ led) (msa : (sa, PySem.W.listOf ss.toArray c2') ∈ led) (msv : (sv, PySem.W.listOf ws.toArray c3') ∈ led)
    (mcv : (cv, ocv') ∈ led) (hr : ∀ p ∈ rest', p ∈ led) (md : (d, PySem.W.listOf ys'.toArray c) ∈ led) (hc : ocv'.data = .cell u)
    (o : ∀ p ∈ rest', p.1 ≠ d) (o1 : @Ne Nat d x) (o2 : @Ne Nat d dx) (o3 : @Ne Nat d ha) (o4 : @Ne Nat d sa) (o5 : @Ne Nat d sv) (o6 : @Ne Nat d cv) (r : ∀ p ∈ rest', p.1 ≠ sv)
    (vd : m' (PySem.Str.ofString "domain") = some (.ref x)) (vg : m' (PySem.Str.ofString "given") = some (.ref gv)) (vk : m' (PySem.Str.ofString "kept") = some (.ref kv)) (vh : m' (PySem.Str.ofString "held") = some (.ref d)) (vv : m' (PySem.Str.ofString "saved") = some (.ref sv)) :
    TurnPostL h₀ L x dx ha sa cv gv kv h1 h2 t1 t2 kk ys cg ck gs rest rest' (i + 1) s₁ Q .next { s₁ with heap := h', toks := tk } := by
  rw [fold_filter, List.nil_append] at i3
  exact turn_fin (extra := [(d, PySem.W.listOf ys'.toArray c)]) P hsub F N mx mdx mha msa msv mcv hr (fun p hp => by rw [List.mem_singleton.mp hp]; exact md) (P.good.hideIn hG hv') i1 (IntsAre.append P.ihs (.cons _ _ .nil)) i3 P.iss P.iws.more (Nat.le_succ_of_le P.len) hc (.head _)
    (fun q hq p hp => by rw [List.mem_singleton.mp hq]; exact (o p hp).symm) (offOne o1) (offOne o2) (offOne o3) (offOne o4) (offOne o5) (offOne o6) r P.n1 P.n2 P.n3 P.n4 P.n5 vd vg vk vh vv

/-- hiding refused -/
theorem fin_hideOut {d : Addr} {v : Int} {ys' : List Value} {c : Nat}
    (P : LIP x dx ha sa cv gv kv sv hv ys cg ck c4 gs D H M st vs hs ss ws us ocv i m₁ rest) (hsub : ∀ p ∈ rest, p ∈ rest') (F : Fr h₀ L h' m') (N : News h₀ L h' led) (hv' : v ∉ D)
    (i3 : IntsAre ys' (List.foldl (fun l' k' => if ¬k' = v then l' ++ [k'] else l') [] M))
    (mx : (x, domObj 264 dx vs.toArray n') ∈ led) (mdx : (dx, dictOf (desOf ha sa h1 h2 t1 t2) kk) ∈ led) (mha : (ha, PySem.W.listOf hs.toArray c1') ∈ led) (msa : (sa, PySem.W.listOf ss.toArray c2') ∈ led) (msv : (sv, PySem.W.listOf ws.toArray c3') ∈ led)
    (mcv : (cv, ocv') ∈ led) (hr : ∀ p ∈ rest', p ∈ led) (md : (d, PySem.W.listOf ys'.toArray c) ∈ led) (hc : ocv'.data = .cell u)
    (o : ∀ p ∈ rest', p.1 ≠ d) (o1 : @Ne Nat d x) (o2 : @Ne Nat d dx) (o3 : @Ne Nat d ha) (o4 : @Ne Nat d sa) (o5 : @Ne Nat d sv) (o6 : @Ne Nat d cv) (r : ∀ p ∈ rest', p.1 ≠ sv)
    (vd : m' (PySem.Str.ofString "domain") = some (.ref x)) (vg : m' (PySem.Str.ofString "given") = some (.ref gv)) (vk : m' (PySem.Str.ofString "kept") = some (.ref kv)) (vh : m' (PySem.Str.ofString "held") = some (.ref d)) (vv : m' (PySem.Str.ofString "saved") = some (.ref sv)) :
    TurnPostL h₀ L x dx ha sa cv gv kv h1 h2 t1 t2 kk ys cg ck gs rest rest' (i + 1) s₁ Q .next { s₁ with heap := h', toks := tk } := by
  rw [fold_filter, List.nil_append] at i3
  exact turn_fin (extra := [(d, PySem.W.listOf ys'.toArray c)]) P hsub F N mx mdx mha msa msv mcv hr (fun p hp => by rw [List.mem_singleton.mp hp]; exact md) (P.good.hideOut' hv') P.ivs P.ihs i3 P.iss P.iws.more (Nat.le_succ_of_le P.len) hc (.head _)
    (fun q hq p hp => by rw [List.mem_singleton.mp hq]; exact (o p hp).symm) (offOne o1) (offOne o2) (offOne o3) (offOne o4) (offOne o5) (offOne o6) r P.n1 P.n2 P.n3 P.n4 P.n5 vd vg vk vh vv

/-- all put back -/
theorem fin_reset {d e : Addr} {vs' : List Value} {c : Nat}
    (P : LIP x dx ha sa cv gv kv sv hv ys cg ck c4 gs D H M st vs hs ss ws us ocv i m₁ rest) (hsub : ∀ p ∈ rest, p ∈ rest') (F : Fr h₀ L h' m') (N : News h₀ L h' led) (iys : IntsAre ys gs)
    (i1 : IntsAre vs' (D ++ H))
    (mx : (x, domObj 264 dx vs'.toArray n') ∈ led) (mdx : (dx, dictOf (desOf ha sa h1 h2 t1 t2) kk) ∈ led) (mha : (ha, PySem.W.listOf #[] c1') ∈ led) (msa : (sa, PySem.W.listOf #[] c2') ∈ led) (msv : (e, PySem.W.listOf #[] c3') ∈ led)
    (mcv : (cv, ocv') ∈ led) (hr : ∀ p ∈ rest', p ∈ led) (md : (d, PySem.W.listOf ys.toArray c) ∈ led) (hc : ocv'.data = .cell u)
    (o : ∀ p ∈ rest', p.1 ≠ d) (o1 : @Ne Nat d x) (o2 : @Ne Nat d dx) (o3 : @Ne Nat d ha) (o4 : @Ne Nat d sa) (o5 : @Ne Nat d e) (o6 : @Ne Nat d cv) (r : ∀ p ∈ rest', p.1 ≠ e)
    (n1 : @Ne Nat e x) (n2 : @Ne Nat e dx) (n3 : @Ne Nat e ha) (n4 : @Ne Nat e sa) (n5 : @Ne Nat e cv)
    (vd : m' (PySem.Str.ofString "domain") = some (.ref x)) (vg : m' (PySem.Str.ofString "given") = some (.ref gv)) (vk : m' (PySem.Str.ofString "kept") = some (.ref kv)) (vh : m' (PySem.Str.ofString "held") = some (.ref d)) (vv : m' (PySem.Str.ofString "saved") = some (.ref e)) :
    TurnPostL h₀ L x dx ha sa cv gv kv h1 h2 t1 t2 kk ys cg ck gs rest rest' (i + 1) s₁ Q .next { s₁ with heap := h', toks := tk } :=
  turn_fin (extra := [(d, PySem.W.listOf ys.toArray c)]) (hs' := []) (ss' := []) (ws' := []) P hsub F N mx mdx mha msa msv mcv hr (fun p hp => by rw [List.mem_singleton.mp hp]; exact md) P.good.reset i1 .nil iys .nil .nil (Nat.zero_le _) hc (.head _)
    (fun q hq p hp => by rw [List.mem_singleton.mp hq]; exact (o p hp).symm) (offOne o1) (offOne o2) (offOne o3) (offOne o4) (offOne o5) (offOne o6) r n1 n2 n3 n4 n5 vd vg vk vh vv
theorem fin_pushL {d : Addr} {c t : Nat}
    (P : LIP x dx ha sa cv gv kv sv hv ys cg ck c4 gs D H M st vs hs ss ws us ocv i m₁ rest) (hsub : ∀ p ∈ rest, p ∈ rest') (F : Fr h₀ L h' m') (N : News h₀ L h' led) (g : Good gs D H M (((D.length : Nat), M) :: st))
    (vd : m' (PySem.Str.ofString "domain") = some (.ref x)) (vg : m' (PySem.Str.ofString "given") = some (.ref gv)) (vk : m' (PySem.Str.ofString "kept") = some (.ref kv)) (vh : m' (PySem.Str.ofString "held") = some (.ref hv)) (vv : m' (PySem.Str.ofString "saved") = some (.ref sv))
    (mx : (x, domObj 264 dx vs.toArray n') ∈ led) (mdx : (dx, dictOf (desOf ha sa h1 h2 t1 t2) kk) ∈ led) (mha : (ha, PySem.W.listOf hs.toArray c1') ∈ led) (msa : (sa, PySem.W.listOf (ss ++ [Value.int (vs.length : Int) t]).toArray c2') ∈ led) (msv : (sv, PySem.W.listOf (ws ++ [Value.ref d]).toArray c3') ∈ led)
    (mcv : (cv, ocv') ∈ led) (hr : ∀ p ∈ rest', p ∈ led) (md : (d, PySem.W.listOf us.toArray c) ∈ led) (hc : ocv'.data = .cell u)
    (lt : x < d ∧ dx < d ∧ ha < d ∧ sa < d ∧ sv < d ∧ cv < d ∧ AllLt d rest') (r : ∀ p ∈ rest', p.1 ≠ sv)
     :
    TurnPostL h₀ L x dx ha sa cv gv kv h1 h2 t1 t2 kk ys cg ck gs rest rest' (i + 1) s₁ Q .next { s₁ with heap := h', toks := tk } :=
  fin_push P hsub F N g mx mdx mha msa msv mcv hr md hc (allLt_ne lt.2.2.2.2.2.2) (Nat.ne_of_gt lt.1) (Nat.ne_of_gt lt.2.1) (Nat.ne_of_gt lt.2.2.1) (Nat.ne_of_gt lt.2.2.2.1) (Nat.ne_of_gt lt.2.2.2.2.1) (Nat.ne_of_gt lt.2.2.2.2.2.1) r vd vg vk vh vv
theorem fin_hideInL {d : Addr} {v : Int} {ys' vs' : List Value} {c t : Nat}
    (P : LIP x dx ha sa cv gv kv sv hv ys cg ck c4 gs D H M st vs hs ss ws us ocv i m₁ rest) (hsub : ∀ p ∈ rest, p ∈ rest') (F : Fr h₀ L h' m') (N : News h₀ L h' led) (hG : gs.Nodup) (hv' : v ∈ D)
    (i1 : IntsAre vs' (D.erase v)) (i3 : IntsAre ys' (List.foldl (fun l' k' => if ¬k' = v then l' ++ [k'] else l') [] M))
    (vd : m' (PySem.Str.ofString "domain") = some (.ref x)) (vg : m' (PySem.Str.ofString "given") = some (.ref gv)) (vk : m' (PySem.Str.ofString "kept") = some (.ref kv)) (vh : m' (PySem.Str.ofString "held") = some (.ref d)) (vv : m' (PySem.Str.ofString "saved") = some (.ref sv))
    (mx : (x, domObj 264 dx vs'.toArray n') ∈ led) (mdx : (dx, dictOf (desOf ha sa h1 h2 t1 t2) kk) ∈ led) (mha : (ha, PySem.W.listOf (hs ++ [Value.int v t]).toArray c1') ∈ led) (msa : (sa, PySem.W.listOf ss.toArray c2') ∈ led) (msv : (sv, PySem.W.listOf ws.toArray c3') ∈ led)
    (mcv : (cv, ocv') ∈ led) (hr : ∀ p ∈ rest', p ∈ led) (md : (d, PySem.W.listOf ys'.toArray c) ∈ led) (hc : ocv'.data = .cell u)
    (off : x ≠ d ∧ dx ≠ d ∧ ha ≠ d ∧ sa ≠ d ∧ sv ≠ d ∧ cv ≠ d ∧ LCg.Off1 d rest') (r : ∀ p ∈ rest', p.1 ≠ sv)
     :
    TurnPostL h₀ L x dx ha sa cv gv kv h1 h2 t1 t2 kk ys cg ck gs rest rest' (i + 1) s₁ Q .next { s₁ with heap := h', toks := tk } :=
  fin_hideIn P hsub F N hG hv' i1 i3 mx mdx mha msa msv mcv hr md hc (off1_ne off.2.2.2.2.2.2) off.1.symm off.2.1.symm off.2.2.1.symm off.2.2.2.1.symm off.2.2.2.2.1.symm off.2.2.2.2.2.1.symm r vd vg vk vh vv
theorem fin_hideOutL {d : Addr} {v : Int} {ys' : List Value} {c : Nat}
    (P : LIP x dx ha sa cv gv kv sv hv ys cg ck c4 gs D H M st vs hs ss ws us ocv i m₁ rest) (hsub : ∀ p ∈ rest, p ∈ rest') (F : Fr h₀ L h' m') (N : News h₀ L h' led) (hv' : v ∉ D)
    (i3 : IntsAre ys' (List.foldl (fun l' k' => if ¬k' = v then l' ++ [k'] else l') [] M))
    (vd : m' (PySem.Str.ofString "domain") = some (.ref x)) (vg : m' (PySem.Str.ofString "given") = some (.ref gv)) (vk : m' (PySem.Str.ofString "kept") = some (.ref kv)) (vh : m' (PySem.Str.ofString "held") = some (.ref d)) (vv : m' (PySem.Str.ofString "saved") = some (.ref sv))
    (mx : (x, domObj 264 dx vs.toArray n') ∈ led) (mdx : (dx, dictOf (desOf ha sa h1 h2 t1 t2) kk) ∈ led) (mha : (ha, PySem.W.listOf hs.toArray c1') ∈ led) (msa : (sa, PySem.W.listOf ss.toArray c2') ∈ led) (msv : (sv, PySem.W.listOf ws.toArray c3') ∈ led)
    (mcv : (cv, ocv') ∈ led) (hr : ∀ p ∈ rest', p ∈ led) (md : (d, PySem.W.listOf ys'.toArray c) ∈ led) (hc : ocv'.data = .cell u)
    (off : x ≠ d ∧ dx ≠ d ∧ ha ≠ d ∧ sa ≠ d ∧ sv ≠ d ∧ cv ≠ d ∧ LCg.Off1 d rest') (r : ∀ p ∈ rest', p.1 ≠ sv)
     :
    TurnPostL h₀ L x dx ha sa cv gv kv h1 h2 t1 t2 kk ys cg ck gs rest rest' (i + 1) s₁ Q .next { s₁ with heap := h', toks := tk } :=
  fin_hideOut P hsub F N hv' i3 mx mdx mha msa msv mcv hr md hc (off1_ne off.2.2.2.2.2.2) off.1.symm off.2.1.symm off.2.2.1.symm off.2.2.2.1.symm off.2.2.2.2.1.symm off.2.2.2.2.2.1.symm r vd vg vk vh vv
theorem fin_resetL {d e : Addr} {vs' : List Value} {c : Nat}
    (P : LIP x dx ha sa cv gv kv sv hv ys cg ck c4 gs D H M st vs hs ss ws us ocv i m₁ rest) (hsub : ∀ p ∈ rest, p ∈ rest') (F : Fr h₀ L h' m') (N : News h₀ L h' led) (iys : IntsAre ys gs)
    (i1 : IntsAre vs' (D ++ H))
    (vd : m' (PySem.Str.ofString "domain") = some (.ref x)) (vg : m' (PySem.Str.ofString "given") = some (.ref gv)) (vk : m' (PySem.Str.ofString "kept") = some (.ref kv)) (vh : m' (PySem.Str.ofString "held") = some (.ref d)) (vv : m' (PySem.Str.ofString "saved") = some (.ref e))
    (mx : (x, domObj 264 dx vs'.toArray n') ∈ led) (mdx : (dx, dictOf (desOf ha sa h1 h2 t1 t2) kk) ∈ led) (mha : (ha, PySem.W.listOf #[] c1') ∈ led) (msa : (sa, PySem.W.listOf #[] c2') ∈ led) (msv : (e, PySem.W.listOf #[] c3') ∈ led)
    (mcv : (cv, ocv') ∈ led) (hr : ∀ p ∈ rest', p ∈ led) (md : (d, PySem.W.listOf ys.toArray c) ∈ led) (hc : ocv'.data = .cell u)
    (lt : x < d ∧ dx < d ∧ ha < d ∧ sa < d ∧ sv < d ∧ cv < d ∧ AllLt d rest') (lte : d < e ∧ x < e ∧ dx < e ∧ ha < e ∧ sa < e ∧ sv < e ∧ cv < e ∧ AllLt e rest')
     :
    TurnPostL h₀ L x dx ha sa cv gv kv h1 h2 t1 t2 kk ys cg ck gs rest rest' (i + 1) s₁ Q .next { s₁ with heap := h', toks := tk } :=
  fin_reset P hsub F N iys i1 mx mdx mha msa msv mcv hr md hc (allLt_ne lt.2.2.2.2.2.2) (Nat.ne_of_gt lt.1) (Nat.ne_of_gt lt.2.1) (Nat.ne_of_gt lt.2.2.1) (Nat.ne_of_gt lt.2.2.2.1) (Nat.ne_of_lt lte.1) (Nat.ne_of_gt lt.2.2.2.2.2.1) (allLt_ne lte.2.2.2.2.2.2.2) (Nat.ne_of_gt lte.2.1) (Nat.ne_of_gt lte.2.2.1) (Nat.ne_of_gt lte.2.2.2.1) (Nat.ne_of_gt lte.2.2.2.2.1) (Nat.ne_of_gt lte.2.2.2.2.2.2.1) vd vg vk vh vv
end
end PartD19

section PartD20
open PySem PySem.Calls PySem.W PyProof.Rows Builtin
set_option maxRecDepth 100000
set_option maxHeartbeats 4000000
section
variable {prog : Program} {w : World} {A : Around} {E : Value → Shared → Prop} {s : Shared} {h₀ : Heap} {L : Addr} {news : List (Addr × Obj)}
theorem ne_nilK {a b : Addr} {p : List Value} {y : Value} {c c' : Nat} {Q : Value → Shared → Prop} (N : News h₀ L s.heap news) (hl : (a, PySem.W.listOf (p ++ [y]).toArray c) ∈ news) (hb : (b, PySem.W.listOf #[] c') ∈ news) (hu : A.units < cLine)
    (h : Q (.bool true) s) : wpAny (model prog w) A (compareOp .NotEq (.ref a) (.ref b)) Q E s :=
  (PySem.SeqAt.RcNeAt.lists_lengths (News.isList N hl) (News.isList N hb) (by simp) hu) prog w E Q h
end
end PartD20

section PartD21
open PySem PySem.Calls PySem.W PyProof.Rows Builtin
set_option maxRecDepth 100000
set_option maxHeartbeats 4000000
theorem small_fin : ∀ k : Fin 31, Builtin.Range.small 0 (k.val : Int) 1 = true ∧ Builtin.Range.rangeSize 0 (k.val : Int) 1 = (k.val : Int) := by decide +kernel
theorem small_le {n : Nat} (h : n ≤ 30) : Builtin.Range.small 0 (n : Int) 1 = true ∧ Builtin.Range.rangeSize 0 (n : Int) 1 = (n : Int) := small_fin ⟨n, by omega⟩
section
variable {prog : Program} {w : World} {A : Around} {E : Value → Shared → Prop} {s : Shared} {h₀ : Heap} {m : PySem.Str → Option Value} {news : List (Addr × Obj)} {env : Env}
/-- a loop over range(n), its state of my own -/
theorem iter_newR {x : PySem.Str} {body : List Stmt} {Q : Flow → Shared → Prop} {r : Addr} {n : Nat} {t₀ u₀ v₀ : Tok} (J : Nat → (PySem.Str → Option Value) → List (Addr × Obj) → Prop)
    (hh : A.handled = none) (hr : IsRange s.heap r 0 (n : Int) 1 t₀ u₀ v₀) (h30 : n ≤ 30) (F : Fr h₀ env.locals s.heap m) (N : News h₀ env.locals s.heap news) (hj : J 0 m news)
    (turn : ∀ i t m₁ news₁ h tk own, i < n → (∀ p ∈ own, ∀ q ∈ news₁, q.1 ≠ p.1) → J i m₁ news₁ → Fr h₀ env.locals h (fun y => if y = x then some (.int (i : Int) t) else m₁ y) → News h₀ env.locals h (news₁ ++ own) →
      wpAny (model prog w) A (execs body env) (StepPost h₀ env.locals (J (i + 1)) own { s with heap := h, toks := tk } Q) E { s with heap := h, toks := tk })
    (done : ∀ m₁ news₁ h tk, J n m₁ news₁ → Fr h₀ env.locals h m₁ → News h₀ env.locals h news₁ → Q .next { s with heap := h, toks := tk }) :
    wpAny (model prog w) A (pyIter (.ref r)) (fun it s₂ => LoopAtV prog w A h₀ env x body Q E it s₂) E s := by
  obtain ⟨hsm, hsz⟩ := small_le h30
  refine wpAny_pyIter_range hr hsm ?_
  have W := Walks.range (prog := prog) (w := w) hh s.heap.objs.size 0 1 n
  refine ⟨_, _, _, n, _, _, m, news, J, rfl, W, ?_, ?_, ?_, (by show IsRangeIter _ _ _ _ _; rw [hsz]; simpa using Heap.get?_push_size _ rfl), F.push _, (fun p hp => ⟨Heap.get?_push_of_some _ (N p hp).1, (N p hp).2⟩), hj, ?_, ?_⟩
  · intro hm
    exact absurd F.ns.lt ((List.mem_singleton.mp hm) ▸ Nat.lt_irrefl _)
  · intro b hb
    rw [List.mem_singleton.mp hb]
    exact next_is_new F
  · intro p hp hI
    exact absurd (Heap.lt_size (N p hp).1) ((List.mem_singleton.mp hI) ▸ Nat.lt_irrefl _)
  · rintro i v m₁ news₁ s₁ own ⟨hh', tk', rfl⟩ hin ⟨t, hv⟩ hJ hoff hown _ hall hst F₁ N₁
    have hsep : ∀ p ∈ own, ∀ q ∈ news₁, q.1 ≠ p.1 := by
      intro p hp q hq e
      have h1 := List.mem_singleton.mp (hown p hp)
      exact hoff q hq (by rw [e, h1]; exact .head _)
    have hIo : ∃ oI, (s.heap.objs.size, oI) ∈ own := by
      obtain ⟨oI, hoI⟩ : ∃ oI, hh'.get? s.heap.objs.size = some oI := ⟨_, hst⟩
      exact ⟨oI, hall _ (.head _) (next_is_new F) oI hoI⟩
    obtain ⟨oI, hIo⟩ := hIo
    have hv' : v = .int (i : Int) t := by rw [hv, Int.zero_add, Int.mul_one]
    subst hv'
    have N₂ : News h₀ env.locals hh' (news₁ ++ own) := fun p hp => N₁ p ((List.mem_append.mp hp).elim (fun h => List.mem_append.mpr (.inr h)) fun h => List.mem_append.mpr (.inl h))
    refine wpAny_mono (turn i t m₁ news₁ hh' tk' own hin hsep hJ F₁ N₂) (fun f s₂ p => ?_) fun _ _ e => e
    have fin : StepEnd h₀ env.locals (J (i + 1)) own { s with heap := hh', toks := tk' } s₂ → LoopStepU h₀ env.locals [s.heap.objs.size] own (J (i + 1)) { s with heap := hh', toks := tk' } .next s₂ := by
      rintro ⟨h', tk, m', nx, e, F', N', ho, hm⟩
      refine ⟨rfl, h', tk, m', nx, e, F', fun p hp => N' p ((List.mem_append.mp hp).elim (fun h => List.mem_append.mpr (.inr h)) fun h => List.mem_append.mpr (.inl h)), fun p hp hq => ?_, hm⟩
      exact ho _ hIo p hp (List.mem_singleton.mp hq)
    cases f with
    | ret v => exact .ret p
    | brk => exact .brk p
    | next => exact .next (fin p)
    | cont => exact .cont (fin p)
  · rintro h' tk m' news' F' N' _ hJ
    exact done m' news' h' tk hJ F' N'
end
end PartD21

section PartD22
open PySem PySem.Calls PySem.W PyProof.Rows Builtin
set_option maxRecDepth 100000
set_option maxHeartbeats 4000000
/-- what the last loop's walk asks for -/
structure TE (x dx ha sa cv gv sv : Addr) (ys : List Value) (cg : Nat) (gs D H : List Int) (vs hs : List Value) (rest : List (Addr × Obj)) : Prop where
  ivs : IntsAre vs D
  ihs : IntsAre hs H
  iys : IntsAre ys gs
  lG : gs.length ≤ 9
  lD : D.length ≤ 9
  lH : H.length ≤ 9
  lvs : vs.length ≤ 9
  lhs : hs.length ≤ 9
  mg : (gv, PySem.W.listOf ys.toArray cg) ∈ rest
  rx : ∀ p ∈ rest, p.1 ≠ x
  rdx : ∀ p ∈ rest, p.1 ≠ dx
  rha : ∀ p ∈ rest, p.1 ≠ ha
  rsa : ∀ p ∈ rest, p.1 ≠ sa
  n1 : @Ne Nat sv x
  n2 : @Ne Nat sv dx
  n3 : @Ne Nat sv ha
  n4 : @Ne Nat sv sa
  e1 : @Ne Nat x dx
  e2 : @Ne Nat x ha
  e3 : @Ne Nat x sa
  e4 : @Ne Nat dx ha
  e5 : @Ne Nat dx sa
  e6 : @Ne Nat ha sa
  e7 : @Ne Nat x cv
  e8 : @Ne Nat dx cv
  e9 : @Ne Nat ha cv
  e10 : @Ne Nat sa cv

/-- the ledger in the last loop: only the domain's own four objects change -/
abbrev LedE (x dx ha sa sv cv : Addr) (h1 h2 : Int) (t1 t2 : Tok) (kk : Nat) (vs hs ss ws : List Value) (ocv : Obj) (n c1 c2 c3 : Nat) (rest : List (Addr × Obj)) : List (Addr × Obj) :=
  (x, domObj 264 dx vs.toArray n) :: (dx, dictOf (desOf ha sa h1 h2 t1 t2) kk) :: (ha, PySem.W.listOf hs.toArray c1) :: (sa, PySem.W.listOf ss.toArray c2) :: (sv, PySem.W.listOf ws.toArray c3) :: (cv, ocv) :: rest

/-- what a turn's end of the last loop shows -/
def EndPost (h₀ : Heap) (L x dx ha sa sv cv : Addr) (h1 h2 : Int) (t1 t2 : Tok) (kk : Nat) (ws : List Value) (ocv : Obj) (c3 : Nat) (y : PySem.Str) (m : PySem.Str → Option Value) (D' H' : List Int) (ss : List Value) (rest : List (Addr × Obj)) (s₁ : Shared) (Q : Flow → Shared → Prop) (f : Flow) (s₂ : Shared) : Prop :=
  match f with
  | .ret v => Q (.ret v) s₂
  | .brk => Q .next s₂
  | _ => ∃ h' tk u vs hs n c1 c2, s₂ = { s₁ with heap := h', toks := tk } ∧ Fr h₀ L h' (fun z => if z = y then u else m z) ∧ News h₀ L h' (LedE x dx ha sa sv cv h1 h2 t1 t2 kk vs hs ss ws ocv n c1 c2 c3 rest) ∧ IntsAre vs D' ∧ IntsAre hs H'

section
variable {prog : Program} {w : World} {A : Around} {E : Value → Shared → Prop} {s : Shared} {h₀ : Heap} {m : PySem.Str → Option Value} {env : Env}
theorem if_same {m : PySem.Str → Option Value} {y : PySem.Str} {u v : Option Value} : (fun z => if z = y then v else (fun z => if z = y then u else m z) z) = fun z => if z = y then v else m z := by
  funext z; by_cases q : z = y <;> simp [q]

theorem law_ends {r x dx ha sa cv gv kv sv hv L : Addr} {h1 h2 : Int} {t1 t2 : Tok} {t₀ u₀ v₀ : Tok} {kk cg ck : Nat} {ys : List Value} {gs : List Int} {news : List (Addr × Obj)} {y : PySem.Str} {body : List Stmt} {Q : Flow → Shared → Prop}
    {vs₀ hs₀ ss₀ ws us : List Value} {D₀ H₀ M₀ : List Int} {st₀ : List (Int × List Int)} {n₀ c1₀ c2₀ c3 c4 i₀ : Nat} {ocv : Obj} {u' : Option Value} {rest : List (Addr × Obj)} {m₀ : PySem.Str → Option Value}
    (hL : env.locals = L) (hh : A.handled = none) (hr : IsRange s.heap r 0 (ws.length : Int) 1 t₀ u₀ v₀) (F : Fr h₀ L s.heap m) (N : News h₀ L s.heap news)
    (P : LIP x dx ha sa cv gv kv sv hv ys cg ck c4 gs D₀ H₀ M₀ st₀ vs₀ hs₀ ss₀ ws us ocv i₀ m₀ rest) (T : TI x dx ha sa cv gv kv sv hv ys cg ck c4 gs D₀ H₀ M₀ vs₀ hs₀ us ocv u' rest) (hz : ws.length ≤ 30)
    (hsub : ∀ p ∈ LedE x dx ha sa sv cv h1 h2 t1 t2 kk vs₀ hs₀ ss₀ ws ocv n₀ c1₀ c2₀ c3 rest, p ∈ news)
    (turn : ∀ i t h tk D H M q W st vs hs ss tq nn c1 c2 a us' cW rest', i < ws.length → Good gs D H M ((q, W) :: st) → TE x dx ha sa cv gv sv ys cg gs D H vs hs rest' → IntsAre ss (st.map (·.1)).reverse → ss.length ≤ 29 → D.length ≤ q → q ≤ D.length + H.length →
      ws[ws.length - 1 - i]? = some (.ref a) → (a, PySem.W.listOf us'.toArray cW) ∈ rest' → IntsAre us' W → (∀ p ∈ rest, p ∈ rest') →
      Fr h₀ L h (fun z => if z = y then some (.int (i : Int) t) else m z) →
      News h₀ L h (LedE x dx ha sa sv cv h1 h2 t1 t2 kk vs hs (ss ++ [Value.int q tq]) ws ocv nn c1 c2 c3 rest') →
      wpAny (model prog w) A (execs body env) (EndPost h₀ L x dx ha sa sv cv h1 h2 t1 t2 kk ws ocv c3 y m (D ++ H.drop (cutAt D H q)) (H.take (cutAt D H q)) ss rest' { s with heap := h, toks := tk } Q) E { s with heap := h, toks := tk })
    (done : ∀ u h tk D H M vs hs nn c1 c2, Good gs D H M [] → TE x dx ha sa cv gv sv ys cg gs D H vs hs rest → Fr h₀ L h (fun z => if z = y then u else m z) →
      News h₀ L h (LedE x dx ha sa sv cv h1 h2 t1 t2 kk vs hs [] ws ocv nn c1 c2 c3 rest) → Q .next { s with heap := h, toks := tk }) :
    wpAny (model prog w) A (pyIter (.ref r)) (fun it s₂ => LoopAtV prog w A h₀ env y body Q E it s₂) E s := by
  subst hL
  let J : Nat → (PySem.Str → Option Value) → List (Addr × Obj) → Prop := fun i m₁ nx => ∃ u D H M st vs hs ss nn c1 c2, m₁ = (fun z => if z = y then u else m z) ∧
    nx = LedE x dx ha sa sv cv h1 h2 t1 t2 kk vs hs ss ws ocv nn c1 c2 c3 rest ∧ Good gs D H M st ∧ IntsAre vs D ∧ IntsAre hs H ∧ IntsAre ss (st.map (·.1)).reverse ∧ st.length + i = ws.length ∧ SavedAre rest (ws.take (ws.length - i)) (st.map (·.2)).reverse
  have te : ∀ {D H : List Int} {M : List Int} {st : List (Int × List Int)} {vs hs : List Value} {rest' : List (Addr × Obj)}, Good gs D H M st → IntsAre vs D → IntsAre hs H → (∀ p ∈ rest, p ∈ rest') → (∀ p ∈ rest', p.1 ≠ x) → (∀ p ∈ rest', p.1 ≠ dx) → (∀ p ∈ rest', p.1 ≠ ha) → (∀ p ∈ rest', p.1 ≠ sa) →
      TE x dx ha sa cv gv sv ys cg gs D H vs hs rest' := by
    intro D H M st vs hs rest' g iv ih hs' o1 o2 o3 o4
    have a1 := g.lenD
    have a2 := g.lenH
    have b1 := iv.length
    have b2 := ih.length
    have b3 := T.lG
    exact ⟨iv, ih, T.iys, T.lG, by omega, by omega, by omega, by omega, hs' _ T.mg, o1, o2, o3, o4, T.n1, T.n2, T.n3, T.n4, T.e1, T.e2, T.e3, T.e4, T.e5, T.e6, T.e7, T.e8, T.e9, T.e10⟩
  have l1 := P.iws.length
  rw [List.length_reverse, List.length_map] at l1
  have N0 : News h₀ env.locals s.heap (LedE x dx ha sa sv cv h1 h2 t1 t2 kk vs₀ hs₀ ss₀ ws ocv n₀ c1₀ c2₀ c3 rest) := newsSub N hsub
  refine iter_newR J hh hr hz F N0 ⟨m y, D₀, H₀, M₀, st₀, vs₀, hs₀, ss₀, n₀, c1₀, c2₀, ?_, rfl, P.good, P.ivs, P.ihs, P.iss, by omega, ?_⟩ ?_ ?_
  · funext z
    by_cases q : z = y
    · simp [q]
    · simp [q]
  · rw [Nat.sub_zero, List.take_length]; exact P.iws
  · rintro i t _ _ h tk own hin hsep ⟨u, D, H, M, st, vs, hs, ss, nn, c1, c2, rfl, rfl, g, iv, ih, is, hlen, iw⟩ F₁ N₁
    rw [if_same] at F₁
    cases st with
    | nil => simp at hlen; omega
    | cons a st =>
      obtain ⟨q, W⟩ := a
      rw [List.map_cons, List.reverse_cons] at is iw
      obtain ⟨ss', tq, rfl, is'⟩ := ints_snoc is
      obtain ⟨ws', a, us', cW, hw, iw', ma, ia⟩ := SavedAre.snoc_inv iw
      rw [List.length_cons] at hlen
      have z1 := is'.length
      rw [List.length_reverse, List.length_map] at z1
      have z2 := iw'.length
      rw [List.length_reverse, List.length_map] at z2
      have hwl : ws'.length = ws.length - 1 - i := by omega
      have hget : ws[ws.length - 1 - i]? = some (.ref a) := by
        have e : (ws.take (ws.length - i))[ws.length - 1 - i]? = some (.ref a) := by
          rw [hw, List.getElem?_append_right (by omega), hwl, Nat.sub_self]; rfl
        rw [List.getElem?_take_of_lt (by omega)] at e
        exact e
      have hw2 : ws.take (ws.length - (i + 1)) = ws' := by
        have e : (ws.take (ws.length - i)).take (ws.length - (i + 1)) = ws' := by
          rw [hw, List.take_append_of_le_length (by omega), List.take_of_length_le (by omega)]
        rw [List.take_take, Nat.min_eq_left (by omega)] at e
        exact e
      have hsub' : ∀ p ∈ rest, p ∈ rest ++ own := fun p hp => List.mem_append_left _ hp
      have hx : ∀ b o, (b, o) ∈ LedE x dx ha sa sv cv h1 h2 t1 t2 kk vs hs (ss' ++ [Value.int q tq]) ws ocv nn c1 c2 c3 rest → ∀ p ∈ own, p.1 ≠ b := fun b o hb p hp e => hsep p hp _ hb e.symm
      have off : ∀ {b : Addr}, (∀ p ∈ rest, p.1 ≠ b) → (∀ p ∈ own, p.1 ≠ b) → ∀ p ∈ rest ++ own, p.1 ≠ b := fun h1 h2 p hp => (List.mem_append.mp hp).elim (h1 p) (h2 p)
      have ox := hx x _ (.head _)
      have odx := hx dx _ (.tail _ (.head _))
      have oha := hx ha _ (.tail _ (.tail _ (.head _)))
      have osa := hx sa _ (.tail _ (.tail _ (.tail _ (.head _))))
      have bb := g.bounds
      refine wpAny_mono (turn i t h tk D H M q W st vs hs ss' tq nn c1 c2 a us' cW (rest ++ own) hin g (te g iv ih hsub' (off T.rx ox) (off T.rdx odx) (off T.rha oha) (off T.rsa osa)) is' (by omega) bb.1 bb.2 hget (hsub' _ ma) ia hsub' F₁ N₁) (fun f s₂ p => ?_) fun _ _ e => e
      have fin : (∃ h' tk' u vs hs n c1 c2, s₂ = { s with heap := h', toks := tk' } ∧ Fr h₀ env.locals h' (fun z => if z = y then u else m z) ∧ News h₀ env.locals h' (LedE x dx ha sa sv cv h1 h2 t1 t2 kk vs hs ss' ws ocv n c1 c2 c3 (rest ++ own)) ∧ IntsAre vs (D ++ H.drop (cutAt D H q)) ∧ IntsAre hs (H.take (cutAt D H q))) →
          StepEnd h₀ env.locals (J (i + 1)) own { s with heap := h, toks := tk } s₂ := by
        rintro ⟨h', tk', u', vs', hs', n', c1', c2', e, F', N', iv', ih'⟩
        refine ⟨h', tk', _, LedE x dx ha sa sv cv h1 h2 t1 t2 kk vs' hs' ss' ws ocv n' c1' c2' c3 rest, e, F', N', ?_, u', _, _, W, st, vs', hs', ss', n', c1', c2', rfl, rfl, g.pop, iv', ih', is', by omega, ?_⟩
        · intro p hp q' hq'
          rcases List.mem_cons.mp hq' with rfl | hq'
          · exact (ox p hp).symm
          rcases List.mem_cons.mp hq' with rfl | hq'
          · exact (odx p hp).symm
          rcases List.mem_cons.mp hq' with rfl | hq'
          · exact (oha p hp).symm
          rcases List.mem_cons.mp hq' with rfl | hq'
          · exact (osa p hp).symm
          exact hsep p hp q' (.tail _ (.tail _ (.tail _ (.tail _ hq'))))
        · rw [hw2]; exact iw'
      cases f with
      | ret v => exact p
      | brk => exact p
      | next => exact fin p
      | cont => exact fin p
  · rintro _ _ h tk ⟨u, D, H, M, st, vs, hs, ss, nn, c1, c2, rfl, rfl, g, iv, ih, is, hlen, iw⟩ F₁ N₁
    have hst : st = [] := List.length_eq_zero_iff.mp (by omega)
    subst hst
    obtain rfl := IntsAre.nil_inv is
    exact done u h tk D H M vs hs nn c1 c2 g (te g iv ih (fun p hp => hp) T.rx T.rdx T.rha T.rsa) F₁ N₁
end
end PartD22

section PartD23
open PySem PySem.Calls PySem.W PyProof.Rows Builtin
set_option maxRecDepth 100000
set_option maxHeartbeats 4000000
section
variable {prog : Program} {w : World} {A : Around} {E : Value → Shared → Prop} {s : Shared} {h₀ : Heap} {L : Addr} {news : List (Addr × Obj)}
/-- an item counted from the end of a list -/
theorem item_back {value slice : PySem.Expr} {l : Addr} {ws : List Value} {c i : Nat} {k : Int} {u : Tok} {v : Value} {Q : Value → Shared → Prop} (N : News h₀ L s.heap news) (hl : (l, PySem.W.listOf ws.toArray c) ∈ news) (hi : i < ws.length) (hz : ws.length ≤ 30)
    (hx : ws[ws.length - 1 - i]? = some v) (hk : k = (ws.length : Int) - 1 - (i : Int)) (h : Q v s)
    (hs : subscripted slice false (.ref l) (.int k u) = operate [.ref l, .int k u] (getItem (.ref l) (.int k u)) := by with_unfolding_all rfl) :
    wpAny (model prog w) A (subscriptTail value slice (.ref l) (.int k u)) Q E s := by
  have hls : s.heap.IsList l ws.toArray := News.isList N hl
  have e : k.toNat = ws.length - 1 - i := by omega
  exact tail_any hls.typeIs slot_list_getitem.lookup (wpAny_getItem_list hls (by omega) (by omega) (by rw [e]; simpa using hx) h) hs
theorem len_led {l : Addr} {ws : List Value} {c : Nat} {Q : Value → Shared → Prop} (N : News h₀ L s.heap news) (hl : (l, PySem.W.listOf ws.toArray c) ∈ news) (hz : ws.length ≤ 1000)
    (h : Q (.int ws.length (s.toks + 1)) { s with toks := s.toks + 1 + 1 }) : wpAny (model prog w) A (call (.builtin "len") [.ref l]) Q E s :=
  call_len_list (News.isList N hl) (by simp; omega) (by simpa using h)
theorem truthy_led {l : Addr} {ws : List Value} {c : Nat} {Q : Bool → Shared → Prop} (N : News h₀ L s.heap news) (hl : (l, PySem.W.listOf ws.toArray c) ∈ news) (hz : ws.length ≤ 1000)
    (h : Q (!ws.isEmpty) { s with toks := s.toks + 1 + 1 }) : wpAny (model prog w) A (truthy (.ref l)) Q E s :=
  wpAny_truthy_list (News.isList N hl) (by simp; omega) (by simpa using h)
end
end PartD23

section PartD24
open PySem PySem.Calls PySem.W PyProof.Rows Builtin
set_option maxRecDepth 100000
set_option maxHeartbeats 4000000
section
variable {prog : Program} {w : World} {A : Around} {E : Value → Shared → Prop} {s : Shared} {K : Frag} {h₀ : Heap} {L : Addr} {m : PySem.Str → Option Value} {news : List (Addr × Obj)} {g : Obj → List (Addr × Obj)}
theorem updFMem {d : Addr} {o : Obj} : ∀ {l : List (Addr × Obj)} {g : Obj → List (Addr × Obj)}, UpdF d o l g → (d, o) ∈ l ∧ ∀ o', Upd d o o' l (g o')
  | _, _, .head h => ⟨.head _, fun _ => .head h⟩
  | _, _, .tail h r => ⟨.tail _ (updFMem r).1, fun o' => .tail h ((updFMem r).2 o')⟩

/-- an object of such a class made of another one -/
theorem init_dom2 {C x dx y dy : Addr} {od ody : Obj} {items : Array Value} {n ny : Nat} {Q : Value → Shared → Prop} (hh : A.handled = none) (F : Fr h₀ L s.heap m) (X₀ : K.In h₀) (N : News h₀ L s.heap news) (Y : LC K C)
    (hd : (dx, od) ∈ news) (U : UpdF x (domObj C dx #[] n) news g) (hy : (y, domObj C dy items ny) ∈ news) (hdy : (dy, ody) ∈ news) (hne : @Ne Nat x y) (hz : items.size ≤ sizeLine)
    (h : ∀ h' n' tk, Fr h₀ L h' m → News h₀ L h' (g (domObj C dx items n')) → Q .none { s with heap := h', toks := tk }) :
    wpAny (model prog w) A (call (.builtin "list.__init__") [.ref x, .ref y]) Q E s := by
  have X := X₀.keeps F.keep
  obtain ⟨hx, U'⟩ := updFMem U
  have hx' := (N _ hx).1
  refine call_dom (n := "__init__") (.inl (by decide +kernel)) (by decide +kernel) (isList_dom X (instD N hx hd) (overList_mro Y.over (.inr (.inl rfl)))) (PySem.F.args_list_init_2 _ _) (by decide +kernel) PySem.F.entry_list_init ?_
  show wpAny _ _ (do let old ← Builtin.List.listItems (.ref x); Builtin.List.listUpdate (.ref x) (fun _ => #[]); letGo old.toList.reverse; Builtin.List.listExtendWith (.ref x) (.ref y) .none) _ _ _
  refine wpAny_bind (wpAny_bind (wpAny_seqItems hx' rfl (wpAny_pure ?_)))
  refine wpAny_bind (wpAny_updateSeq hx' rfl ?_)
  refine wpAny_bind (wpAny_letGo ?_)
  obtain ⟨F1, N1⟩ := updK (f := Obj.mapSeq fun _ => #[]) F N (updSame (U' (domObj C dx #[] n))) rfl rfl
  refine extend_dom (A := A) (items := items) hh (X₀.keeps F1.keep) Y (instD N1 hy hdy) ⟨_, _, (N1 _ hy).1, rfl⟩ hz (N1 _ hx).1 hne ?_
  intro h' n' tk e1 e2
  have hxL : x ≠ L := (N _ hx).2.1
  have F2 : Fr h₀ L h' m := by
    refine ⟨?_, fun b o e => e2 b o (fun z => ?_) (F1.keep b o e), F.above⟩
    · obtain ⟨oL, es, ep, hL, r⟩ := F1.ns
      exact ⟨oL, es, ep, e2 _ _ hxL.symm hL, r⟩
    · have q := (N _ hx).2.2
      rw [z] at e
      dsimp only at q
      rw [e] at q
      cases q
  refine h h' n' tk F2 ?_
  obtain ⟨pre, post, e, a, b⟩ := UpdF.split U |> fun ⟨pre, post, e, hg, a, b⟩ => (⟨pre, post, e, a, b⟩ : ∃ pre post, news = pre ++ (x, domObj C dx #[] n) :: post ∧ (∀ p ∈ pre, p.1 ≠ x) ∧ ∀ p ∈ post, p.1 ≠ x)
  obtain ⟨pre', post', e', hg, a', b'⟩ := U.split
  rw [hg]
  subst e'
  intro p hp
  have keep : ∀ q ∈ pre' ++ (x, domObj C dx #[] n) :: post', q.1 ≠ x → h'.get? q.1 = some q.2 ∧ q.1 ≠ L ∧ h₀.get? q.1 = none := fun q hq hn => ⟨e2 _ _ hn (N1 q hq).1, (N q hq).2⟩
  rcases List.mem_append.mp hp with hp | hp
  · exact keep p (List.mem_append_left _ hp) (a' p hp)
  · rcases List.mem_cons.mp hp with rfl | hp
    · exact ⟨e1, (N _ hx).2⟩
    · exact keep p (List.mem_append_right _ (.tail _ hp)) (b' p hp)
end
end PartD24

section PartD25
open PySem PySem.Calls PySem.W PyProof.Rows Builtin
set_option maxRecDepth 100000
set_option maxHeartbeats 4000000
theorem sub_lt {d : Addr} {l full : List (Addr × Obj)} (h : ∀ p ∈ full, p.1 < d) (hs : ∀ p ∈ l, p ∈ full) : ∀ p ∈ l, p.1 < d := fun p hp => h p (hs p hp)
theorem lt_ne2 {d d' : Addr} {l full : List (Addr × Obj)} (h : ∀ p ∈ full, p.1 < d') (hd : @LT.lt Nat _ d' d) (hs : ∀ p ∈ l, p ∈ full) : ∀ p ∈ l, p.1 ≠ d := fun p hp => Nat.ne_of_lt (Nat.lt_trans (h p (hs p hp)) hd)
section
variable {prog : Program} {w : World} {A : Around} {E : Value → Shared → Prop} {s : Shared} {K : Frag} {h₀ : Heap} {L x C : Addr} {m : PySem.Str → Option Value} {news : List (Addr × Obj)} {ox : Obj} {od : Option Obj}

/-- an object of a class above list is a list, asked as the first of a tuple of classes -/
theorem isi_lt {tp : Addr} {dd : Option Addr} {n : Nat} {sl : Array (Option Value)} {its : List Value} {Q : Value → Shared → Prop} (X : K.In s.heap) (Y : LC K C) (I : PySem.W.InstAt s.heap x ox C od)
    (htp : s.heap.get? tp = some ⟨.type "tuple", dd, .seq (Value.type "list" :: its).toArray n, sl⟩) (h : ∀ tk, Q (.bool true) { s with toks := tk }) :
    wpAny (model prog w) A (call (.builtin "isinstance") [.ref x, .ref tp]) Q E s := by
  have hsub : ∀ {M : Model} {h : Heap}, K.In h → Looks M h (isSubtype (.ref C) (.type "list")) true := fun X => looks_mroIn X (overList_mro Y.over (.inr (.inl rfl)))
  have hcl := overList_cls Y.over
  have one : ∀ (dep : Int) (tk : Tok), Meets (Builtin.«isinstance.nested» ⟨[.ref x, .type "list", .int dep tk], []⟩) (fun _ R s => (K.In s.heap ∧ PySem.W.InstAt s.heap x ox C od) ∧ ∀ tk', R (.ok (.ret (.bool true))) { s with toks := tk' }) := by
    intro dep tk prog w A R s hs
    obtain ⟨h0, g, d, tt, os⟩ := s
    obtain ⟨⟨X, p⟩, hq⟩ := hs
    have LT := p.type (M := model prog w)
    unfold Builtin.«isinstance.nested»
    refine wpAny_bind (LT.at ?_)
    rw [if_neg (fun q => by cases beq_iff_eq.mp q)]
    have hty : Looks (model prog w) h0 (typeOf (.type "list")) (.type "type") := Looks.of_pure (kitMeta_of (by decide +kernel))
    have his : Looks (model prog w) h0 (isType (.type "list")) true := Looks.of_pure rfl
    have LI : Looks (model prog w) h0 (isInstance (.ref x) (.type "list")) true := LT.andThen (hsub X)
    refine wpAny_bind (hty.at ?_)
    rw [if_pos (by decide)]
    k_delta "plainIsInstance"
    refine wpAny_bind (wpAny_bind (his.at ?_))
    simp only [Bool.not_true, Bool.false_eq_true, if_false]
    refine wpAny_bind (LI.at ?_)
    simp only [if_true]
    first | exact wpAny_pure (wpAny_pure (hq tt)) | exact wpAny_pure (hq tt) | exact wpAny_bind (wpAny_pure (wpAny_pure (hq tt)))
  have tup : ∀ (cs : List Value) (_ : cs = Value.type "list" :: its) (tk : Tok), Meets (Builtin.«isinstance.nested» ⟨[.ref x, .ref tp, .int 0 tk], []⟩)
      (fun _ R s => (K.In s.heap ∧ PySem.W.InstAt s.heap x ox C od ∧ s.heap.get? tp = some ⟨.type "tuple", dd, .seq cs.toArray n, sl⟩) ∧ ∀ tk', R (.ok (.ret (.bool true))) { s with toks := tk' }) := by
    intro cs hcs tk prog w A R s hs
    obtain ⟨h, g, d, tt, os⟩ := s
    obtain ⟨⟨X, p, htp⟩, hq⟩ := hs
    have hT2 : (⟨h, g, d, tt, os⟩ : Shared).TypeIs (.ref tp) "tuple" := ⟨_, htp, rfl⟩
    have f1 := PySem.F.isi_sub_tuple
    have LT := p.type (M := model prog w)
    have hne : (Value.ref C == Value.ref tp) = false := by
      refine Bool.eq_false_iff.mpr fun q => ?_
      obtain ⟨cd, hc, _⟩ := hcl
      obtain rfl : C = tp := by simpa using q
      unfold clsIn at hc
      split at hc
      · rename_i o1 o2 o3 o4 ho
        have := X _ _ ho
        rw [htp] at this
        cases this
      · cases hc
    unfold Builtin.«isinstance.nested»
    refine wpAny_bind (LT.at ?_)
    rw [if_neg (fun q => by rw [hne] at q; exact Bool.noConfusion q)]
    clear LT hne
    repeat (any_goals (first | assumption | wp_step))
    refine wpAny_arrayLoop ?_
    simp only [Option.getD_some, List.toList_toArray]
    rw [hcs, List.forIn_cons]
    refine wpAny_bind (wpAny_bind (call_function_meets PySem.F.kind_isinstance_nested PySem.F.plain_isinstance_nested PySem.F.entry_isinstance_nested (PySem.F.args_isinstance_nested_3 _ _ _) (one _ _) ⟨⟨X, p⟩, fun tk' => ?_⟩))
    show wpAny _ _ (truthy (.bool true) >>= _) _ _ _
    refine wpAny_bind (m := truthy (.bool true)) (wpAny_pure ?_)
    refine wpAny_bind (wpAny_pure (wpAny_pure (wpAny_pure ?_)))
    repeat (any_goals (first | assumption | wp_step))
    exact hq tk'
  exact call_isinstance (S := fun _ R s => (K.In s.heap ∧ PySem.W.InstAt s.heap x ox C od ∧ s.heap.get? tp = some ⟨.type "tuple", dd, .seq (Value.type "list" :: its).toArray n, sl⟩) ∧ ∀ tk, R (.ok (.ret (.bool true))) { s with toks := tk })
    (fun prog w A R s hs => isinstance_outer (tup _ rfl _ prog w A R s hs) (by intro e; cases e)) ⟨⟨X, I, htp⟩, h⟩
theorem isi_ltK {tp dx : Addr} {odx : Obj} {items : Array Value} {nn : Nat} {dd : Option Addr} {n : Nat} {sl : Array (Option Value)} {its : List Value} {Q : Value → Shared → Prop} (F : Fr h₀ L s.heap m) (X₀ : K.In h₀) (N : News h₀ L s.heap news) (Y : LC K C)
    (hx : (x, domObj C dx items nn) ∈ news) (hd : (dx, odx) ∈ news) (htp : (tp, (⟨.type "tuple", dd, .seq (Value.type "list" :: its).toArray n, sl⟩ : Obj)) ∈ news) (h : ∀ tk, Q (.bool true) { s with toks := tk }) :
    wpAny (model prog w) A (call (.builtin "isinstance") [.ref x, .ref tp]) Q E s := isi_lt (X₀.keeps F.keep) Y (instD N hx hd) (N _ htp).1 h
end
end PartD25

section PartD26
open PySem PySem.Calls PySem.W PyProof.Rows Builtin
set_option maxRecDepth 100000
set_option maxHeartbeats 4000000
section
variable {prog : Program} {w : World} {A : Around} {E : Value → Shared → Prop} {s : Shared} {h₀ : Heap} {L d : Addr} {m : PySem.Str → Option Value} {news : List (Addr × Obj)} {o : Obj} {kvs : List (PySem.Str × Value)}
/-- a dict copied -/
theorem dcopyK {Q : Value → Shared → Prop} (F : Fr h₀ L s.heap m) (N : News h₀ L s.heap news) (hp : (d, o) ∈ news) (hd : o.IsDictOf (PySem.strKind prog w) kvs) (lo : (d == sysModules) = false) (hl : h₀.NoLimit) (hz : kvs.length ≤ 1000)
    (h : ∀ d' h' o', Fr h₀ L h' m → News h₀ L h' ((d', o') :: news) → o'.IsDictOf (PySem.strKind prog w) kvs → (∀ p ∈ news, p.1 < d') → (d' == sysModules) = false → Q (.ref d') { s with heap := h' }) :
    wpAny (model prog w) A (call (.builtin "dict.copy") [.ref d]) Q E s := by
  have hD : s.heap.DictOf (PySem.strKind prog w) d kvs := Heap.dictOf_iff.mpr ⟨o, (N _ hp).1, hd⟩
  refine call_meetsIn PySem.F.slot_dict_copy hD.typeIs PySem.F.entry_dict_copy (PySem.F.args_dict_copy_1 _) (meets_dict_copy (PySem.strKind prog w) d lo) ⟨kvs, hD, by rw [sizeLine_eq]; omega, fun h' hm _ hk => ?_⟩
  obtain ⟨o', ho', hd'⟩ := Heap.dictOf_iff.mp hm
  have F' : Fr h₀ L h' m := by
    obtain ⟨oL, a1, a2, hL, a3⟩ := F.ns
    exact ⟨⟨oL, a1, a2, hk _ _ hL, a3⟩, fun b o e => hk _ _ (F.keep b o e), F.above⟩
  refine h _ h' o' F' (fun p hp => ?_) hd' (fun p hp => Heap.lt_size (N p hp).1) (F.notModules (modules_low hl))
  rcases List.mem_cons.mp hp with rfl | hp
  · refine ⟨ho', Nat.ne_of_gt F.ns.lt, ?_⟩
    cases hq : h₀.get? s.heap.objs.size with
    | none => rfl
    | some o' => exact absurd (Heap.lt_size (F.keep _ _ hq)) (Nat.lt_irrefl _)
  · exact ⟨hk _ _ (N p hp).1, (N p hp).2⟩
end
end PartD26

section PartD27
open PySem PySem.Calls PySem.W PyProof.Rows Builtin
set_option maxRecDepth 100000
set_option maxHeartbeats 4000000
section
variable {prog : Program} {w : World} {A : Around} {E : Value → Shared → Prop} {s : Shared} {h₀ : Heap} {L : Addr} {m : PySem.Str → Option Value} {news : List (Addr × Obj)} {env : Env}
/-- what is left of a for behind its source -/
def ForRest (prog : Program) (w : World) (A : Around) (target : PySem.Expr) (body orelse : List Stmt) (env : Env) (Q : Flow → Shared → Prop) (E : Value → Shared → Prop) (x : Value) (s₁ : Shared) : Prop :=
  wpAny (model prog w) A (pyIter x) (fun it s₂ => codeAny (model prog w) A (.forLoop target it body orelse env) (fun r s' => match r with | .ok f => Q f s' | .error e => cameBackBy (model prog w) A env E e s') s₂) E s₁
theorem For_via {target iter : PySem.Expr} {body orelse : List Stmt} {pos : Pos} {Q : Flow → Shared → Prop} (h : wpAny (model prog w) A (eval iter env) (ForRest prog w A target body orelse env Q E) E s)
    (hs : ∀ x, foldedSetIterable iter env x = pure x) : wpAny (model prog w) A (exec (.For target iter body orelse pos) env) Q E s := wpAny_For h hs

theorem listPushed {h : Heap} {l : Addr} {o : Obj} {items : Array Value} (x : h.IsList l items) : (h.push o).IsList l items := x.at fun o e => Heap.get?_push_of_some _ e

theorem for_end {R : Result → Shared → Prop} {target : PySem.Expr} {body orelse : List Stmt} {it : Value}
    (h : wpAny (model prog w) A (pyNext it) (fun r s₁ => r = none ∧ wpAny (model prog w) A (execs orelse env) (fun f s₃ => R (.ok f) s₃) (notedBy (model prog w) A env fun e s' => R (.error e) s') s₁) (notedBy (model prog w) A env fun e s' => R (.error e) s') s) :
    codeAny (model prog w) A (.forLoop target it body orelse env) R s := by
  refine codeAny_of_tree ?_
  show wpAny _ A ((forTurn target it body orelse env).onRaise (fun x => do noteFrame x env; theTreesLotGoes x)) _ _ s
  refine wpAny_noted ?_
  simp only [forTurn]
  refine wpAny_bind (wpAny_standAt (wpAny_bind (wpAny_onRaise (wpAny_mono h (fun r s₁ h₁ => ?_) fun _ _ h' => wpAny_standAt h'))))
  obtain ⟨rfl, h₁⟩ := h₁
  exact wpAny_pure ⟨rfl, codeAny_block h₁⟩

/-- over an empty list nothing happens -/
theorem ForRest.empty {target : PySem.Expr} {body orelse : List Stmt} {Q : Flow → Shared → Prop} {l : Addr} {c : Nat} (hh : A.handled = none) (F : Fr h₀ L s.heap m) (N : News h₀ L s.heap news) (hl : (l, PySem.W.listOf #[] c) ∈ news)
    (hE : PassesOwn (model prog w) A env E)
    (h : ∀ h', Fr h₀ L h' m → News h₀ L h' news → wpAny (model prog w) A (execs orelse env) Q E { s with heap := h' }) : ForRest prog w A target body orelse env Q E (.ref l) s := by
  have hls : s.heap.IsList l #[] := News.isList N hl
  unfold ForRest
  refine wpAny_pyIter_list hls ?_
  have hit : (s.heap.push { cls := .type "list_iterator", data := .fields #[.ref l, .int 0 0] }).IsListIter s.heap.objs.size l 0 := ⟨_, Heap.get?_push_size _ rfl, rfl, rfl⟩
  refine for_end (wpAny_pyNext_list_end hh hit (hls.at fun o e => Heap.get?_push_of_some _ e) rfl fun h' he => ⟨rfl, ?_⟩)
  have k : ∀ b o, s.heap.get? b = some o → h'.get? b = some o := fun b o e => he b o (fun z => by rw [z] at e; exact Nat.lt_irrefl _ (Heap.lt_size e)) (Heap.get?_push_of_some _ e)
  have F' : Fr h₀ L h' m := by
    obtain ⟨oL, a1, a2, hL, a3⟩ := F.ns
    exact ⟨⟨oL, a1, a2, k _ _ hL, a3⟩, fun b o e => k _ _ (F.keep b o e), F.above⟩
  exact wpAny_passesOwn hE (h h' F' fun p hp => ⟨k _ _ (N p hp).1, (N p hp).2⟩)
end
end PartD27

section PartD28
open PySem PySem.Calls PySem.W PyProof.Rows Builtin
set_option maxRecDepth 100000
set_option maxHeartbeats 4000000
/-- a ledger without the one entry at d -/
inductive Rem (d : Addr) : List (Addr × Obj) → List (Addr × Obj) → Prop
  | head {o r} : (∀ p ∈ r, p.1 ≠ d) → Rem d ((d, o) :: r) r
  | tail {p r r'} : @Ne Nat p.1 d → Rem d r r' → Rem d (p :: r) (p :: r')
theorem Rem.sub {d : Addr} : ∀ {l l' : List (Addr × Obj)}, Rem d l l' → ∀ p ∈ l', p ∈ l ∧ p.1 ≠ d
  | _, _, .head h, p, hp => ⟨.tail _ hp, h p hp⟩
  | _, _, .tail h r, p, hp => by
    rcases List.mem_cons.mp hp with rfl | hp
    · exact ⟨.head _, h⟩
    · exact ⟨.tail _ (r.sub p hp).1, (r.sub p hp).2⟩

section
variable {prog : Program} {w : World} {A : Around} {E : Value → Shared → Prop} {s : Shared} {h₀ : Heap} {L : Addr} {m : PySem.Str → Option Value} {news : List (Addr × Obj)} {env : Env}
/-- behind the one turn of a loop -/
def OneEnd (h₀ : Heap) (L I : Addr) (kept : List (Addr × Obj)) (Q : Flow → Shared → Prop) (f : Flow) (s₃ : Shared) : Prop :=
  match f with
  | .ret v => Q (.ret v) s₃
  | .brk => Q .next s₃
  | _ => ∃ m' nx nx', Fr h₀ L s₃.heap m' ∧ News h₀ L s₃.heap nx ∧ Rem I nx nx' ∧ (∀ p ∈ kept, p ∈ nx) ∧ ∀ h'' tk'', Fr h₀ L h'' m' → News h₀ L h'' nx' → Q .next { s₃ with heap := h'', toks := tk'' }

theorem fr_but {h h' : Heap} {I : Addr} (F : Fr h₀ L h m) (hI0 : h₀.get? I = none) (hIL : I ≠ L) (k : ∀ b o, b ≠ I → h.get? b = some o → h'.get? b = some o) : Fr h₀ L h' m := by
  obtain ⟨oL, a1, a2, hL, a3⟩ := F.ns
  exact ⟨⟨oL, a1, a2, k _ _ hIL.symm hL, a3⟩, fun b o e => k _ _ (fun z => by rw [z, hI0] at e; cases e) (F.keep b o e), F.above⟩

theorem one_turn {I : Addr} {fp : List Addr} {P : Nat → Value → Prop} {St : Nat → Heap → Prop} {target : PySem.Expr} {body : List Stmt} {Q : Flow → Shared → Prop} {kept : List (Addr × Obj)} (W : Walks prog w A I fp [I] 1 P St) (hst : St 0 s.heap)
    (hob : ∀ i h, St i h → ∃ o, h.get? I = some o) (hE : PassesOwn (model prog w) A env E) (F : Fr h₀ L s.heap m) (N : News h₀ L s.heap news) (hIn : ∀ p ∈ news, p.1 ≠ I) (hI0 : h₀.get? I = none) (hIL : I ≠ L)
    (hfp : ∀ b ∈ fp, b = I ∨ ∃ o, (b, o) ∈ kept) (hkept : ∀ p ∈ kept, p ∈ news)
    (turn : ∀ v h' tk oI, P 0 v → Fr h₀ L h' m → News h₀ L h' ((I, oI) :: news) → wpAny (model prog w) A (assign target env v) (fun _ s₂ => wpAny (model prog w) A (execs body env) (OneEnd h₀ L I ((I, oI) :: kept) Q) E s₂) E { s with heap := h', toks := tk })
    (ht : ∀ v, letOwnedTupleGo target (.ref I) v = pure ()) :
    codeAny (model prog w) A (.forLoop target (.ref I) body [] env) (fun r s' => match r with | .ok f => Q f s' | .error e => cameBackBy (model prog w) A env E e s') s := by
  refine codeAny_forLoop (fun n s' => (n = 1 ∧ s' = s) ∨ (n = 0 ∧ St 1 s'.heap ∧ ∃ m' nx nx', Fr h₀ L s'.heap m' ∧ News h₀ L s'.heap nx ∧ Rem I nx nx' ∧ ∀ h'' tk'', Fr h₀ L h'' m' → News h₀ L h'' nx' → Q .next { s' with heap := h'', toks := tk'' })) ?_ 1 (.inl ⟨rfl, rfl⟩) ht
  rintro n s' (⟨rfl, rfl⟩ | ⟨rfl, hs1, m', nx, nx', F', N', hr, after⟩)
  · refine W.item 0 s' _ _ Nat.zero_lt_one hst fun v h' tk hP hst' hk => ?_
    have k : ∀ b o, b ≠ I → s'.heap.get? b = some o → h'.get? b = some o := fun b o hb e => hk b o (by simpa using hb) e
    obtain ⟨oI, hoI⟩ := hob _ _ hst'
    have N1 : News h₀ L h' ((I, oI) :: news) := fun p hp => by
      rcases List.mem_cons.mp hp with rfl | hp
      · exact ⟨hoI, hIL, hI0⟩
      · exact ⟨k _ _ (hIn p hp) (N p hp).1, (N p hp).2⟩
    refine wpAny_passesOwn hE (wpAny_mono (turn v h' tk oI hP (fr_but F hI0 hIL k) N1) (fun _ s₂ h₂ => ?_) fun _ _ e => e)
    refine wpAny_passesOwn hE (wpAny_mono h₂ (fun f s₃ h₃ => ?_) fun _ _ e => e)
    have fin : (∃ m' nx nx', Fr h₀ L s₃.heap m' ∧ News h₀ L s₃.heap nx ∧ Rem I nx nx' ∧ (∀ p ∈ (I, oI) :: kept, p ∈ nx) ∧ ∀ h'' tk'', Fr h₀ L h'' m' → News h₀ L h'' nx' → Q .next { s₃ with heap := h'', toks := tk'' }) →
        ∃ k, k < 1 ∧ ((k = 1 ∧ s₃ = s') ∨ (k = 0 ∧ St 1 s₃.heap ∧ ∃ m' nx nx', Fr h₀ L s₃.heap m' ∧ News h₀ L s₃.heap nx ∧ Rem I nx nx' ∧ ∀ h'' tk'', Fr h₀ L h'' m' → News h₀ L h'' nx' → Q .next { s₃ with heap := h'', toks := tk'' })) := by
      rintro ⟨m', nx, nx', F', N', hr, hk', after⟩
      refine ⟨0, Nat.zero_lt_one, .inr ⟨rfl, W.frame 1 h' s₃.heap hst' fun b hb o e => ?_, m', nx, nx', F', N', hr, after⟩⟩
      rcases hfp b hb with rfl | ⟨o', ho'⟩
      · rw [hoI] at e; cases e
        exact (N' _ (hk' _ (.head _))).1
      · have e2 := (N1 _ (.tail _ (hkept _ ho'))).1
        rw [e2] at e; cases e
        exact (N' _ (hk' _ (.tail _ ho'))).1
    cases f with
    | ret v => exact h₃
    | brk => exact h₃
    | next => exact fin h₃
    | cont => exact fin h₃
  · refine W.done s' _ _ hs1 fun h' tk hk => wpAny_execs_nil ?_
    have k : ∀ b o, b ≠ I → s'.heap.get? b = some o → h'.get? b = some o := fun b o hb e => hk b o (by simpa using hb) e
    exact after h' tk (fr_but F' hI0 hIL k) fun p hp => ⟨k _ _ (hr.sub p hp).2 (N' p (hr.sub p hp).1).1, (N' p (hr.sub p hp).1).2⟩

/-- over a dict of one key -/
theorem ForRest.keys1 {target : PySem.Expr} {body : List Stmt} {Q : Flow → Shared → Prop} {d : Addr} {o : Obj} {k : PySem.Str} {v : Value} (hh : A.handled = none) (F : Fr h₀ L s.heap m) (N : News h₀ L s.heap news) (hp : (d, o) ∈ news) (hd : o.IsDictOf (PySem.strKind prog w) [(k, v)]) (lo : (d == sysModules) = false)
    (hE : PassesOwn (model prog w) A env E) (ht : ∀ I v, letOwnedTupleGo target (.ref I) v = pure ())
    (turn : ∀ t I oI h' tk, Fr h₀ L h' m → News h₀ L h' ((I, oI) :: news) → (∀ p ∈ news, p.1 < I) →
      wpAny (model prog w) A (assign target env (.str k t)) (fun _ s₂ => wpAny (model prog w) A (execs body env) (OneEnd h₀ L I [(I, oI), (d, o)] Q) E s₂) E { s with heap := h', toks := tk }) :
    ForRest prog w A target body [] env Q E (.ref d) s := by
  have hD : s.heap.DictOf (PySem.strKind prog w) d [(k, v)] := Heap.dictOf_iff.mpr ⟨o, (N _ hp).1, hd⟩
  obtain ⟨ep, hat⟩ := hD.dictAt
  unfold ForRest
  refine wpAny_pyIter_dict lo hat ?_
  have hlt := Heap.lt_size (N _ hp).1
  have hn0 : h₀.get? s.heap.objs.size = none := next_is_new F
  refine one_turn (kept := [(d, o)]) (Walks.dictKeys hh s.heap.objs.size d (Nat.ne_of_lt hlt) [(k, v)] ep) ⟨⟨_, Heap.get?_push_size _ rfl, rfl, rfl⟩, hat.push _⟩ ?_ hE (F.push _) (fun p hp => ⟨Heap.get?_push_of_some _ (N p hp).1, (N p hp).2⟩) (fun p hp => Nat.ne_of_lt (Heap.lt_size (N p hp).1)) hn0 (Nat.ne_of_gt F.ns.lt) ?_ ?_ ?_ (ht _)
  · rintro i h ⟨⟨o, ho, _⟩, _⟩
    exact ⟨o, ho⟩
  · intro b hb
    simp only [List.mem_cons, List.not_mem_nil, or_false] at hb
    rcases hb with rfl | rfl
    · exact .inl rfl
    · exact .inr ⟨o, .head _⟩
  · intro p hp'
    rw [List.mem_singleton.mp hp']; exact hp
  · rintro key h' tk oI ⟨k', x, hx, hkey⟩ F' N'
    simp at hx
    obtain ⟨rfl, rfl⟩ := hx
    obtain ⟨t, rfl⟩ : ∃ t, key = .str k t := Value.isStrOf_shape hkey
    exact turn t _ oI h' tk F' N' fun p hp => Heap.lt_size (N p hp).1
end
end PartD28

section PartD29
open PySem PySem.Calls PySem.W PyProof.Rows Builtin
set_option maxRecDepth 100000
set_option maxHeartbeats 4000000
section
variable {prog : Program} {w : World} {A : Around} {E : Value → Shared → Prop} {s : Shared} {h₀ : Heap} {L : Addr} {m : PySem.Str → Option Value} {news : List (Addr × Obj)} {env : Env} {d : Addr} {o : Obj} {kvs : List (PySem.Str × Value)}
abbrev viewObj (d : Addr) : Obj := { cls := .type "dict_values", data := .fields #[.ref d] }
theorem dvaluesK {Q : Value → Shared → Prop} (F : Fr h₀ L s.heap m) (N : News h₀ L s.heap news) (hp : (d, o) ∈ news) (hd : o.IsDictOf (PySem.strKind prog w) kvs) (lo : (d == sysModules) = false)
    (h : ∀ v h', Fr h₀ L h' m → News h₀ L h' ((v, viewObj d) :: news) → (∀ p ∈ news, p.1 < v) → Q (.ref v) { s with heap := h' }) :
    wpAny (model prog w) A (call (.builtin "dict.values") [.ref d]) Q E s := by
  have hD : s.heap.DictOf (PySem.strKind prog w) d kvs := Heap.dictOf_iff.mpr ⟨o, (N _ hp).1, hd⟩
  exact call_meetsIn PySem.F.slot_dict_values hD.typeIs PySem.F.entry_dict_values (PySem.F.args_dict_values_1 _) (meets_dict_values (PySem.strKind prog w) d lo) ⟨⟨kvs, hD⟩, h _ _ (F.push _) (N.push F _) fun p hp => Heap.lt_size (N p hp).1⟩

theorem ForRest.values1 {target : PySem.Expr} {body : List Stmt} {Q : Flow → Shared → Prop} {vw : Addr} {k : PySem.Str} {v : Value} (hh : A.handled = none) (F : Fr h₀ L s.heap m) (N : News h₀ L s.heap news) (hv : (vw, viewObj d) ∈ news) (hp : (d, o) ∈ news) (hd : o.IsDictOf (PySem.strKind prog w) [(k, v)])
    (hE : PassesOwn (model prog w) A env E) (ht : ∀ I v, letOwnedTupleGo target (.ref I) v = pure ())
    (turn : ∀ I oI h' tk, Fr h₀ L h' m → News h₀ L h' ((I, oI) :: news) → (∀ p ∈ news, p.1 < I) →
      wpAny (model prog w) A (assign target env v) (fun _ s₂ => wpAny (model prog w) A (execs body env) (OneEnd h₀ L I [(I, oI), (d, o)] Q) E s₂) E { s with heap := h', toks := tk }) :
    ForRest prog w A target body [] env Q E (.ref vw) s := by
  have hD : s.heap.DictOf (PySem.strKind prog w) d [(k, v)] := Heap.dictOf_iff.mpr ⟨o, (N _ hp).1, hd⟩
  obtain ⟨ep, hat⟩ := hD.dictAt
  unfold ForRest
  refine wpAny_pyIter_values ⟨_, (N _ hv).1, rfl, rfl⟩ hat ?_
  have hlt := Heap.lt_size (N _ hp).1
  have hn0 : h₀.get? s.heap.objs.size = none := next_is_new F
  refine one_turn (kept := [(d, o)]) (Walks.dictValues hh s.heap.objs.size d (Nat.ne_of_lt hlt) [(k, v)] ep) ⟨⟨_, Heap.get?_push_size _ rfl, rfl, rfl⟩, hat.push _⟩ ?_ hE (F.push _) (fun p hp => ⟨Heap.get?_push_of_some _ (N p hp).1, (N p hp).2⟩) (fun p hp => Nat.ne_of_lt (Heap.lt_size (N p hp).1)) hn0 (Nat.ne_of_gt F.ns.lt) ?_ ?_ ?_ (ht _)
  · rintro i h ⟨⟨o, ho, _⟩, _⟩
    exact ⟨o, ho⟩
  · intro b hb
    simp only [List.mem_cons, List.not_mem_nil, or_false] at hb
    rcases hb with rfl | rfl
    · exact .inl rfl
    · exact .inr ⟨o, .head _⟩
  · intro p hp'
    rw [List.mem_singleton.mp hp']; exact hp
  · rintro v' h' tk oI ⟨k', hx⟩ F' N'
    simp at hx
    obtain ⟨rfl, rfl⟩ := hx
    exact turn _ oI h' tk F' N' fun p hp => Heap.lt_size (N p hp).1
end
end PartD29

section PartD30
open PySem PySem.Calls PySem.W PyProof.Rows Builtin
set_option maxRecDepth 100000
set_option maxHeartbeats 4000000
section
variable {prog : Program} {w : World} {A : Around} {E : Value → Shared → Prop} {s : Shared} {K : Frag} {x C dx : Addr} {od : Obj} {n : Nat} {h₀ : Heap} {L : Addr} {m : PySem.Str → Option Value} {news : List (Addr × Obj)} {d : Addr} {o : Obj} {kvs : List (PySem.Str × Value)}
theorem truthy_domT {Q : Bool → Shared → Prop} {vs : List Value} (F : Fr h₀ L s.heap m) (X₀ : K.In h₀) (N : News h₀ L s.heap news) (Y : LC K C) (hx : (x, domObj C dx vs.toArray n) ∈ news) (hd : (dx, od) ∈ news) (hz : vs.length ≤ 9) (hp : vs.length ≠ 0)
    (h : Q true { s with toks := s.toks + 1 + 1 }) : wpAny (model prog w) A (truthy (.ref x)) Q E s :=
  truthy_domK F X₀ N Y hx hd (by rw [sizeLine_eq]; omega) (by rw [decide_eq_true hp]; exact h)
theorem truthy_dictT {Q : Bool → Shared → Prop} {kv : PySem.Str × Value} (N : News h₀ L s.heap news) (hp : (d, o) ∈ news) (hd : o.IsDictOf (PySem.strKind prog w) (kv :: kvs)) (lo : (d == sysModules) = false) (hz : kvs.length ≤ 1000)
    (h : Q true { s with toks := s.toks + 1 + 1 }) : wpAny (model prog w) A (truthy (.ref d)) Q E s :=
  wpAny_truthy_dict lo (Heap.dictOf_iff.mpr ⟨o, (N _ hp).1, hd⟩) (by rw [List.length_cons]; omega) h
end
end PartD30

section PartD31
open PySem PySem.Calls PySem.W PyProof.Rows Builtin
set_option maxRecDepth 100000
set_option maxHeartbeats 4000000
section
variable {prog : Program} {w : World} {A : Around} {R : GenEnd} {Y : Protocol} {n : Nat} {s₀ : Shared} {c : Code} {fs : List Frame} {s : Shared} {env : Env}
  {K : Flow → Sem Fin} {H : Value → Sem Fin} {gd : Bool → Bool} {lv : List Value → List Value}

/-- a piece that does not raise -/
theorem seg_quiet {α : Type} {m : Sem α} {K' : α → Sem Fin} {H' : Value → Sem Fin}
    (h : wpAny (model prog w) (A.over c fs) m (fun a s' => Seg (model prog w) A R Y n s₀ c (K' a) fs s') (fun _ _ => False) s) : Seg (model prog w) A R Y n s₀ c (m.wrap K' H' gd lv) fs s :=
  seg_wrap (wpAny_mono h (fun _ _ x => x) fun _ _ x => x.elim)
theorem seg_quietB {α β : Type} {m : Sem α} {K₁ : α → Sem β} {K' : β → Sem Fin} {H' : Value → Sem Fin}
    (h : wpAny (model prog w) (A.over c fs) m (fun a s' => Seg (model prog w) A R Y n s₀ c ((K₁ a).wrap K' H' gd lv) fs s') (fun _ _ => False) s) : Seg (model prog w) A R Y n s₀ c ((m >>= K₁).wrap K' H' gd lv) fs s :=
  seg_bind_wrap (wpAny_mono h (fun _ _ x => x) fun _ _ x => x.elim)

theorem seg_stmt {st : Stmt} {rest : List Stmt}
    (h : wpAny (model prog w) (A.over c fs) (exec st env) (fun f s' => match f with
      | .next => Seg (model prog w) A R Y n s₀ c ((execs rest env).wrap K H gd lv) fs s'
      | f => Seg (model prog w) A R Y n s₀ c (K f) fs s') (fun _ _ => False) s) :
    Seg (model prog w) A R Y n s₀ c ((execs (st :: rest) env).wrap K H gd lv) fs s := by
  refine seg_execs_cons (seg_quiet (wpAny_mono h (fun f s' x => ?_) fun _ _ x => x))
  cases f <;> exact x

theorem seg_For {target iter : PySem.Expr} {body orelse : List Stmt} {pos : Pos} (hs : ∀ x, foldedSetIterable iter env x = pure x)
    (h : wpAny (model prog w) (A.over c fs) (eval iter env) (fun x s₁ => wpAny (model prog w) (A.over c fs) (pyIter x) (fun it s₂ => ∀ p, Seg (model prog w) A R Y n s₀ (.forLoop target it body orelse env) ((model prog w).den (.forLoop target it body orelse env))
      (.ret (fun r => ((match r with | .ok f => (.pure f : Sem Flow) | .error e => .raise e).onRaise fun (x : Value) => do
        if (← field x 1) == Value.none then unsupported "frame.own-activation:exception-without-traceback"
        setFlight x env.frame).wrap K H gd lv) none (gd false) (lv []) c p [] :: fs) s₂) (fun _ _ => False) s₁) (fun _ _ => False) s) :
    Seg (model prog w) A R Y n s₀ c ((exec (.For target iter body orelse pos) env).wrap K H gd lv) fs s := by
  rw [exec_For]
  refine seg_quietB (wpAny_standAt (seg_quietB (wpAny_mono h (fun x s₁ h₁ => ?_) fun _ _ x => x)))
  refine seg_quietB (wpAny_of_eq (hs x) (seg_quietB (wpAny_standAt (seg_quietB (wpAny_holding (wpAny_mono h₁ (fun it s₂ h₂ => ?_) fun _ _ x => x))))))
  exact seg_call h₂

theorem seg_block {stmts : List Stmt}
    (h : Seg (model prog w) A R Y n s₀ (.block stmts env) ((execs stmts env).wrap (fun f => .pure (.done f)) (fun e => (do noteFrame e env; theTreesLotGoes e : Sem Unit).wrap (fun _ => .raise e) .raise id id) id id) fs s) :
    Seg (model prog w) A R Y n s₀ (.block stmts env) ((model prog w).den (.block stmts env)) fs s := by
  show Seg _ A R Y n s₀ _ (((execs stmts env).onRaise (fun x => do noteFrame x env; theTreesLotGoes x)) >>= fun f => (.pure (.done f) : Sem Fin)) fs s
  rw [Sem.onRaise_eq_wrap, Sem.bind_eq_wrap', Sem.wrap_wrap]
  rw [Sem.wrap_congr (execs stmts env) _ _ (K' := fun f => (.pure (.done f) : Sem Fin))
    (H' := fun e => (do noteFrame e env; theTreesLotGoes e : Sem Unit).wrap (fun _ => .raise e) .raise id id) (fun f => by rfl)
    (fun e => by rw [Sem.bind_eq_wrap, Sem.wrap_wrap]; rfl)]
  exact h

theorem seg_forLoop {target : PySem.Expr} {it : Value} {body orelse : List Stmt} (ht : ∀ v, letOwnedTupleGo target it v = pure ())
    (h : wpAny (model prog w) (A.over (.forLoop target it body orelse env) fs) (pyNext it) (fun r s₁ => match r with
      | none => Seg (model prog w) A R Y n s₀ (.block orelse env) ((model prog w).den (.block orelse env)) fs s₁
      | some v => wpAny (model prog w) (A.over (.forLoop target it body orelse env) fs) (assign target env v) (fun _ s₂ => wpAny (model prog w) (A.over (.forLoop target it body orelse env) fs) (execs body env) (fun f s₃ => match f with
          | .next | .cont => Seg (model prog w) A R Y n s₀ (.forLoop target it body orelse env) ((model prog w).den (.forLoop target it body orelse env)) fs s₃
          | .brk => Seg (model prog w) A R Y n s₀ (.forLoop target it body orelse env) (leafOf (.ok .next)) fs s₃
          | .ret v => Seg (model prog w) A R Y n s₀ (.forLoop target it body orelse env) (leafOf (.ok (.ret v))) fs s₃) (fun _ _ => False) s₂) (fun _ _ => False) s₁) (fun _ _ => False) s) :
    Seg (model prog w) A R Y n s₀ (.forLoop target it body orelse env) ((model prog w).den (.forLoop target it body orelse env)) fs s := by
  show Seg _ A R Y n s₀ _ ((forTurn target it body orelse env).onRaise (fun x => do noteFrame x env; theTreesLotGoes x)) fs s
  unfold forTurn
  rw [Sem.onRaise_eq_wrap]
  refine seg_quietB (wpAny_standAt (seg_quietB (wpAny_onRaise (wpAny_mono h (fun r s₁ h₁ => ?_) fun _ _ x => x.elim))))
  cases r with
  | none => exact seg_again rfl h₁
  | some v =>
    refine seg_quietB (wpAny_of_eq (ht v) (seg_quietB (wpAny_mono h₁ (fun _ s₂ h₂ => seg_quietB (wpAny_mono h₂ (fun f s₃ h₃ => ?_) fun _ _ x => x)) fun _ _ x => x)))
    cases f with
    | next => exact seg_again rfl h₃
    | cont => exact seg_again rfl h₃
    | brk => exact h₃
    | ret v => exact h₃
end
end PartD31

section PartD32
open PySem PySem.Calls PySem.W PyProof.Rows Builtin
set_option maxRecDepth 100000
set_option maxHeartbeats 4000000
abbrev keyA : PySem.Str := PySem.Str.ofString "a"
/-- the dicts that came, each with its one value -/
inductive DsAre (prog : Program) (w : World) : List (Addr × Obj) → List Value → Prop
  | nil : DsAre prog w [] []
  | snoc {ds us a o v} : DsAre prog w ds us → o.IsDictOf (PySem.strKind prog w) [(keyA, v)] → DsAre prog w (ds ++ [(a, o)]) (us ++ [v])
theorem DsAre.length {prog : Program} {w : World} {ds : List (Addr × Obj)} {us : List Value} (h : DsAre prog w ds us) : ds.length = us.length := by
  induction h with
  | nil => rfl
  | snoc _ _ ih => simp [ih]
abbrev refsOf (ds : List (Addr × Obj)) : List Value := ds.map fun p => Value.ref p.1
abbrev lstO (acc : List Value) (c : Nat) : Obj := { cls := .type "list", dict := none, data := .seq acc.toArray c, slots := #[] }

/-- what stands while the generator is drawn from -/
structure GS (prog : Program) (w : World) (gb : Heap) (Lg S I : Addr) (gI : Nat) (news : List (Addr × Obj)) (us : List Value) (ds : List (Addr × Obj)) (h : Heap) : Prop where
  base : ∀ b o, gb.get? b = some o → h.get? b = some o
  nw : ∀ p ∈ news, h.get? p.1 = some p.2
  gen : h.IsGen I gI
  dicts : DsAre prog w ds us
  dsAt : ∀ p ∈ ds, h.get? p.1 = some p.2 ∧ gb.get? p.1 = none ∧ p.1 ≠ S
theorem GS.keep {prog : Program} {w : World} {gb : Heap} {Lg S I : Addr} {gI : Nat} {news : List (Addr × Obj)} {us : List Value} {ds : List (Addr × Obj)} {h h' : Heap} (x : GS prog w gb Lg S I gI news us ds h) (hS : gb.get? S = none) (hn : ∀ p ∈ news, p.1 ≠ S) (hI : I ≠ S)
    (k : ∀ b o, b ≠ S → h.get? b = some o → h'.get? b = some o) : GS prog w gb Lg S I gI news us ds h' where
  base := fun b o e => k b o (fun z => by rw [z, hS] at e; cases e) (x.base b o e)
  nw := fun p hp => k _ _ (hn p hp) (x.nw p hp)
  gen := by
    obtain ⟨o, nm, qn, ho, r⟩ := x.gen
    exact ⟨o, nm, qn, k _ _ hI ho, r⟩
  dicts := x.dicts
  dsAt := fun p hp => ⟨k _ _ (x.dsAt p hp).2.2 (x.dsAt p hp).1, (x.dsAt p hp).2⟩

theorem GS.mono {prog : Program} {w : World} {gb : Heap} {Lg S I : Addr} {gI : Nat} {news : List (Addr × Obj)} {us : List Value} {ds : List (Addr × Obj)} {h h' : Heap} (x : GS prog w gb Lg S I gI news us ds h) (k : ∀ b o, h.get? b = some o → h'.get? b = some o) : GS prog w gb Lg S I gI news us ds h' where
  base := fun b o e => k b o (x.base b o e)
  nw := fun p hp => k _ _ (x.nw p hp)
  gen := x.gen.keeps k
  dicts := x.dicts
  dsAt := fun p hp => ⟨k _ _ (x.dsAt p hp).1, (x.dsAt p hp).2⟩

/-- behind a yield -/
def GY (prog : Program) (w : World) (gb : Heap) (Lg S I : Addr) (gI : Nat) (news : List (Addr × Obj)) (V : List Value) : Protocol := fun _ s₀ v s kap =>
  ∃ h tk ds us a o x acc c, s = { s₀ with heap := h, toks := tk } ∧ s₀.heap.get? S = some (lstO acc c) ∧ acc = refsOf ds ∧ h.get? S = some (lstO acc c) ∧ v = .ref a ∧ GS prog w gb Lg S I gI news (us ++ [x]) (ds ++ [(a, o)]) h ∧
    (∃ rem, V = rem ++ x :: us.reverse) ∧ ∀ (s'' : Shared) c', (∀ b o, b ≠ S → h.get? b = some o → s''.heap.get? b = some o) → s''.heap.get? S = some (lstO (acc ++ [v]) c') → kap (.send .none) s''
def GP (prog : Program) (w : World) (gb : Heap) (Lg S I : Addr) (gI : Nat) (news : List (Addr × Obj)) (V : List Value) (_n : Nat) (s₀ s : Shared) : Prop :=
  ∃ h tk ds acc c, s = { s₀ with heap := h, toks := tk } ∧ s₀.heap.get? S = some (lstO acc c) ∧ acc = refsOf ds ∧ h.get? S = some (lstO acc c) ∧ GS prog w gb Lg S I gI news V.reverse ds h
abbrev GR (prog : Program) (w : World) (gb : Heap) (Lg S I : Addr) (gI : Nat) (news : List (Addr × Obj)) (V : List Value) : GenEnd := fun n s₀ r s₁ => r = .ok (.ret .none) ∧ GP prog w gb Lg S I gI news V n s₀ s₁

section
variable {prog : Program} {w : World} {A : Around} {gb : Heap} {Lg S I : Addr} {gI : Nat} {news : List (Addr × Obj)} {V : List Value}
theorem gens_set {s : Shared} {g : Nat} {gs x : GenState} (h : s.gens[g]? = some gs) : (s.setGen g x).gens[g]? = some x := by
  have hlt : g < s.gens.size := by
    rcases Nat.lt_or_ge g s.gens.size with h' | h'
    · exact h'
    · rw [Array.getElem?_eq_none h'] at h; cases h
  simp [Shared.setGen, hlt]

/-- list.extend's loop over the generator -/
theorem gen_loop {res : Value} {R : Result → Shared → Prop} (hh : A.handled = none) (hroom : A.depth + 4 < recursionLimit) (hlim : gb.NoLimit) (hS0 : gb.get? S = none) (hn : ∀ p ∈ news, p.1 ≠ S) (hIS : I ≠ S) (hV : V.length ≤ 1000) : ∀ (k : Nat) (s : Shared) (ds : List (Addr × Obj)) (us : List Value) (c : Nat) (gs : GenState),
    s.heap.get? S = some (lstO (refsOf ds) c) → GS prog w gb Lg S I gI news us ds s.heap → us.length + k = V.length → s.gens[gI]? = some gs →
    gs.Goes (model prog w) A.in1.in1 (GR prog w gb Lg S I gI news V) (GY prog w gb Lg S I gI news V) k (.send .none) (s.setGen gI .running) →
    (∀ h' tk ds' c' gens', gens'.size = s.gens.size → (∀ j, j ≠ gI → gens'[j]? = s.gens[j]?) → gens'[gI]? = some .finished → h'.get? S = some (lstO (refsOf ds') c') → GS prog w gb Lg S I gI news V.reverse ds' h' → R (.ok (.ret res)) { s with heap := h', toks := tk, gens := gens' }) →
    wpAny (model prog w) A.in1 (Builtin.«list.extend.loop» ⟨[.ref S, .ref I, res], []⟩) (fun fin s' => match fin with | .done f => R (.ok f) s' | .again c' => c'.quiet = true ∧ codeAny (model prog w) A c' R s') (fun e s' => R (.error e) s') s := by
  intro k
  induction k with
  | zero =>
    intro s ds us c gs hS g hk hgs hgo hR
    show wpAny _ _ (pyNext (.ref I) >>= _) _ _ _
    have hl : s.heap.NoLimit := hlim.keeps g.base
    refine wpAny_bind (wpAny_pyNext_gen (A := A.in1) (n := 0) (P := GP prog w gb Lg S I gI news V) (Y := GY prog w gb Lg S I gI news V) hh hl (by simp only [depth_in1]; omega) g.gen hgs hgo (fun v s₁ gs' hy => ?_) (fun s₁ hp h' hk' => ?_))
    · exfalso
      obtain ⟨h, tk, ds', us', a, o, x, acc, c', _, e0, e1, _, _, g', ⟨rem, hV'⟩, _⟩ := hy
      have e0' : s.heap.get? S = some (lstO acc c') := e0
      rw [hS] at e0'
      have e2 : refsOf ds = acc := by
        have := Option.some.inj e0'
        injection this with _ _ h3 _
        injection h3 with h4 _
        exact (Array.mk.inj h4)
      have l1 : ds.length = ds'.length := by have := congrArg List.length (e2.trans e1); simpa using this
      have l2 := g'.dicts.length
      have l3 := g.dicts.length
      have l4 := congrArg List.length hV'
      simp at l2 l4
      omega
    · obtain ⟨h, tk, ds', acc, c', rfl, e0, rfl, eS, g'⟩ := hp
      refine wpAny_pure ?_
      have hg2 : (({ s.setGen gI .running with heap := h, toks := tk } : Shared).setGen gI .finished).gens[gI]? = some .finished := gens_set (gens_set hgs)
      refine hR h' tk ds' c' _ ?_ ?_ hg2 (hk' _ _ eS) (g'.mono hk')
      · simp [Shared.setGen]
      · intro j hj
        simp [Shared.setGen, Array.getElem?_setIfInBounds_ne (Ne.symm hj)]
  | succ k ih =>
    intro s ds us c gs hS g hk hgs hgo hR
    show wpAny _ _ (pyNext (.ref I) >>= _) _ _ _
    have hl : s.heap.NoLimit := hlim.keeps g.base
    refine wpAny_bind (wpAny_pyNext_gen (A := A.in1) (n := k + 1) (P := GP prog w gb Lg S I gI news V) (Y := GY prog w gb Lg S I gI news V) hh hl (by simp only [depth_in1]; omega) g.gen hgs hgo (fun v s₁ gs' hy => ?_) (fun s₁ hp h' hk' => ?_))
    · obtain ⟨h, tk, ds', us', a, o, x, acc, c', rfl, e0, rfl, eS, rfl, g', ⟨rem, hV'⟩, kap⟩ := hy
      have e0' : s.heap.get? S = some (lstO (refsOf ds') c') := e0
      rw [hS] at e0'
      have e2 : refsOf ds = refsOf ds' := by
        have := Option.some.inj e0'
        injection this with _ _ h3 _
        injection h3 with h4 _
        exact (Array.mk.inj h4)
      have l1 : ds.length = ds'.length := by have := congrArg List.length e2; simpa using this
      have l2 := g'.dicts.length
      have l3 := g.dicts.length
      have l4 := congrArg List.length hV'
      simp at l2 l4
      dsimp only
      show wpAny _ _ (Builtin.List.listUpdate (.ref S) (·.push (.ref a)) >>= fun _ => again (.builtin "list.extend.loop" ⟨[.ref S, .ref I, res], []⟩)) _ _ _
      have hz1 : (refsOf ds').toArray.size ≤ 1000 := by simp; omega
      refine wpAny_bind (wpAny_updateSeq (s := ({ s.setGen gI .running with heap := h, toks := tk } : Shared).setGen gI gs') eS rfl ?_ (hz := by rw [sizeLine_eq]; omega) (_hz' := by rw [Array.size_push, sizeLine_eq]; omega))
      have hS2 : (h.update S (Obj.mapSeq (·.push (Value.ref a)))).get? S = some (lstO (refsOf (ds' ++ [(a, o)])) (nx (refsOf ds').toArray ((refsOf ds').toArray.push (.ref a)) c')) := by
        have e : refsOf (ds' ++ [(a, o)]) = refsOf ds' ++ [Value.ref a] := by simp [refsOf]
        rw [e]
        have := Heap.get?_update_self (Obj.mapSeq (·.push (Value.ref a))) eS rfl
        rw [this]
        rw [list_mapSeq, List.push_toArray]
      have oth : ∀ b o', b ≠ S → h.get? b = some o' → (h.update S (Obj.mapSeq (·.push (Value.ref a)))).get? b = some o' := fun b o' hb e => (Heap.get?_update_other _ _ (Ne.symm hb)).trans e
      refine wpAny_pure ⟨plainId_quiet PySem.F.plain_extend_loop _, codeAny_builtin PySem.F.entry_extend_loop ?_⟩
      rw [Around.under_plainId PySem.F.plain_extend_loop _]
      refine ih _ (ds' ++ [(a, o)]) (us' ++ [x]) _ gs' hS2 (g'.keep hS0 hn hIS oth) (by simp; omega) (gens_set (gens_set hgs)) ?_ ?_
      · have := kap ((({ ({ s.setGen gI .running with heap := h, toks := tk } : Shared).setGen gI gs' with heap := h.update S (Obj.mapSeq (·.push (Value.ref a))) } : Shared)).setGen gI .running) _ oth (by rw [show refsOf ds' ++ [Value.ref a] = refsOf (ds' ++ [(a, o)]) by simp [refsOf]]; exact hS2)
        exact this
      · intro h' tk' ds'' c'' gens' z1 z2 z3 z4 z5
        refine hR h' tk' ds'' c'' gens' ?_ ?_ z3 z4 z5
        · rw [z1]; simp [Shared.setGen]
        · intro j hj
          rw [z2 j hj]
          simp [Shared.setGen, Array.getElem?_setIfInBounds_ne (Ne.symm hj)]
    · exfalso
      obtain ⟨h, tk, ds', acc, c', rfl, e0, rfl, eS, g'⟩ := hp
      have e0' : s.heap.get? S = some (lstO (refsOf ds') c') := e0
      rw [hS] at e0'
      have e2 : refsOf ds = refsOf ds' := by
        have := Option.some.inj e0'
        injection this with _ _ h3 _
        injection h3 with h4 _
        exact (Array.mk.inj h4)
      have l1 : ds.length = ds'.length := by have := congrArg List.length e2; simpa using this
      have l2 := g'.dicts.length
      have l3 := g.dicts.length
      simp at l2
      omega
end
end PartD32

section PartD33
open PySem PySem.Calls PySem.W PyProof.Rows Builtin
set_option maxRecDepth 100000
set_option maxHeartbeats 4000000
section
variable {prog : Program} {w : World} {A : Around} {E : Value → Shared → Prop} {s : Shared} {gb : Heap} {Lg I : Addr} {gI : Nat} {news : List (Addr × Obj)} {V : List Value}

/-- list.extend of an empty list by the generator -/
theorem gen_extend {S : Addr} {c : Nat} {res : Value} {R : Result → Shared → Prop} {gs : GenState} (hh : A.handled = none) (hroom : A.depth + 4 < recursionLimit) (hlim : gb.NoLimit) (hS0 : gb.get? S = none) (hn : ∀ p ∈ news, p.1 ≠ S) (hIS : I ≠ S) (hV : V.length ≤ 1000)
    (hS : s.heap.get? S = some (lstO [] c)) (g : GS prog w gb Lg S I gI news [] [] s.heap) (hgs : s.gens[gI]? = some gs)
    (hgo : ∀ h' tk c', (∀ b o, b ≠ S → s.heap.get? b = some o → h'.get? b = some o) → h'.get? S = some (lstO [] c') → gs.Goes (model prog w) A.in1.in1 (GR prog w gb Lg S I gI news V) (GY prog w gb Lg S I gI news V) V.length (.send .none) (({ s with heap := h', toks := tk } : Shared).setGen gI .running))
    (hR : ∀ h' tk ds' c' gens', gens'.size = s.gens.size → (∀ j, j ≠ gI → gens'[j]? = s.gens[j]?) → gens'[gI]? = some .finished → h'.get? S = some (lstO (refsOf ds') c') → GS prog w gb Lg S I gI news V.reverse ds' h' → R (.ok (.ret res)) { s with heap := h', toks := tk, gens := gens' }) :
    wpAny (model prog w) A.in1 (Builtin.List.listExtendWith (.ref S) (.ref I) res)
      (fun fin s' => match fin with | .done f => R (.ok f) s' | .again c' => c'.quiet = true ∧ codeAny (model prog w) A c' R s') (fun e s' => R (.error e) s') s := by
  have hT : s.TypeIs (.ref I) "generator" := g.gen.typeIs
  unfold Builtin.List.listExtendWith
  refine wpAny_bind (wpAny_typeOf hT ?_)
  have h1 : Builtin.List.listSameRef (.ref S) (.ref I) = false := by simp [Builtin.List.listSameRef, Ne.symm hIS]
  have h2 : (Value.type "generator" == Value.type "list") = false := by decide
  have h3 : (Value.type "generator" == Value.type "tuple") = false := by decide
  simp only [h1, h2, h3, Bool.or_false, Bool.false_eq_true, if_false]
  refine wpAny_bind (wpAny_pyIter_gen g.gen ?_)
  refine wpAny_bind (wpAny_holding ?_)
  unfold Builtin.List.listLengthHint
  refine wpAny_bind (wpAny_specialOf hT PySem.F.gen_no_len ?_)
  show wpAny _ A.in1 (specialOf (Value.ref I) (PySem.Str.ofString "__length_hint__") >>= _) _ _ _
  refine wpAny_bind (wpAny_specialOf hT PySem.F.gen_no_hint ?_)
  refine wpAny_pure ?_
  show wpAny _ A.in1 (rule "list.extend.makes-room" >>= fun _ => Builtin.List.listTouch (.ref S) >>= fun _ =>
    again (.builtin "list.extend.loop" ⟨[.ref S, .ref I, res], []⟩)) _ _ _
  refine wpAny_bind (wpAny_rule ?_)
  refine wpAny_bind ?_
  show wpAny _ A.in1 (updateSeq S (·.push .none) >>= fun _ => updateSeq S (·.pop)) _ _ _
  refine wpAny_bind (wpAny_updateSeq hS rfl ?_ (hz := by simp) (_hz' := by simp))
  have hS₂ := Heap.get?_update_self (Obj.mapSeq (·.push Value.none)) hS rfl
  refine wpAny_updateSeq hS₂ rfl ?_ (hz := by rw [sizeLine_eq]; simp) (_hz' := by simp)
  have hS₃ := Heap.get?_update_self (Obj.mapSeq (·.pop)) hS₂ rfl
  have oth : ∀ b o, b ≠ S → s.heap.get? b = some o → ((s.heap.update S (Obj.mapSeq (·.push Value.none))).update S (Obj.mapSeq (·.pop))).get? b = some o :=
    fun b o hb e => (Heap.get?_update_other _ _ (Ne.symm hb)).trans ((Heap.get?_update_other _ _ (Ne.symm hb)).trans e)
  refine wpAny_pure ⟨plainId_quiet PySem.F.plain_extend_loop _, codeAny_builtin PySem.F.entry_extend_loop ?_⟩
  rw [Around.under_plainId PySem.F.plain_extend_loop _]
  exact gen_loop (res := res) hh hroom hlim hS0 hn hIS hV V.length _ [] [] _ gs hS₃ (g.keep hS0 hn hIS oth) (by simp) hgs (hgo _ _ _ oth hS₃) fun h' tk ds' c' gens' z1 z2 z3 z4 z5 => hR h' tk ds' c' gens' z1 z2 z3 z4 z5

/-- list(generator) -/
theorem gen_list {Q : Value → Shared → Prop} {c₀ : Code} (hh : A.handled = none) (hroom : A.depth + 8 < recursionLimit) (hlim : gb.NoLimit) (hV : V.length ≤ 1000)
    (hg : s.heap.IsGen I gI) (hgs : s.gens[gI]? = some (.fresh c₀)) (base : ∀ b o, gb.get? b = some o → s.heap.get? b = some o) (nw : ∀ p ∈ news, s.heap.get? p.1 = some p.2)
    (seg : ∀ S (s₀ : Shared) c, (∀ b o, s.heap.get? b = some o → s₀.heap.get? b = some o) → (∀ b o, s.heap.get? b = some o → @LT.lt Nat _ b S) → GS prog w gb Lg S I gI news [] [] s₀.heap → s₀.heap.get? S = some (lstO [] c) →
      Seg (model prog w) A.in1.in1.in1 (GR prog w gb Lg S I gI news V) (GY prog w gb Lg S I gI news V) V.length s₀ c₀ ((model prog w).den c₀) [] s₀)
    (done : ∀ S h' tk ds c' gens', (∀ p ∈ news, p.1 ≠ S) → gb.get? S = none → gens'.size = s.gens.size → (∀ j, j ≠ gI → gens'[j]? = s.gens[j]?) → gens'[gI]? = some .finished → h'.get? S = some (lstO (refsOf ds) c') → GS prog w gb Lg S I gI news V.reverse ds h' →
      Q (.ref S) { s with heap := h', toks := tk, gens := gens' }) :
    wpAny (model prog w) A (call (.type "list") [.ref I]) Q E s := by
  refine callType_codes (Q₁ := fun obj s₁ => obj = .ref s.heap.objs.size ∧ s₁ = { s with heap := s.heap.push { cls := .type "list", data := .seq #[] } }) PySem.F.called_list (PySem.F.typeCall_list_1 _) PySem.F.entry_list_init
    (code_list_new _ ⟨rfl, rfl⟩) ?_
  rintro _ _ ⟨rfl, rfl⟩
  have hS : (s.heap.push { cls := .type "list", data := .seq #[] }).get? s.heap.objs.size = some (lstO [] 0) := Heap.get?_push_size _ rfl
  have up : ∀ b o, s.heap.get? b = some o → (s.heap.push { cls := .type "list", data := .seq #[] }).get? b = some o := fun b o e => Heap.get?_push_of_some _ e
  have hIl : I < s.heap.objs.size := by obtain ⟨o, _, _, ho, _⟩ := hg; exact Heap.lt_size ho
  have hS0' : s.heap.get? s.heap.objs.size = none := by
    cases e : s.heap.get? s.heap.objs.size with
    | none => rfl
    | some o => exact absurd (Heap.lt_size e) (Nat.lt_irrefl _)
  have hS0 : gb.get? s.heap.objs.size = none := by
    cases e : gb.get? s.heap.objs.size with
    | none => rfl
    | some o => have := base _ _ e; rw [hS0'] at this; cases this
  have hn : ∀ p ∈ news, p.1 ≠ s.heap.objs.size := fun p hp => Nat.ne_of_lt (Heap.lt_size (nw p hp))
  refine ⟨⟨_, hS, rfl⟩, PySem.F.args_list_init_2 _ _, ?_⟩
  show wpAny _ A.in1.in1 (do let old ← Builtin.List.listItems (.ref s.heap.objs.size); Builtin.List.listUpdate (.ref s.heap.objs.size) (fun _ => #[]); letGo old.toList.reverse; Builtin.List.listExtendWith (.ref s.heap.objs.size) (.ref I) .none) _ _ _
  refine wpAny_bind (wpAny_bind (wpAny_seqItems hS rfl (wpAny_pure ?_)))
  refine wpAny_bind (wpAny_updateSeq hS rfl ?_)
  refine wpAny_bind (wpAny_letGo ?_)
  have hS₂ := Heap.get?_update_self (Obj.mapSeq fun _ => (#[] : Array Value)) hS rfl
  have oth : ∀ b o, b ≠ s.heap.objs.size → (s.heap.push { cls := .type "list", data := .seq #[] }).get? b = some o → ((s.heap.push { cls := .type "list", data := .seq #[] }).update s.heap.objs.size (Obj.mapSeq fun _ => (#[] : Array Value))).get? b = some o :=
    fun b o hb e => (Heap.get?_update_other _ _ (Ne.symm hb)).trans e
  have old : ∀ b o, s.heap.get? b = some o → ((s.heap.push { cls := .type "list", data := .seq #[] }).update s.heap.objs.size (Obj.mapSeq fun _ => (#[] : Array Value))).get? b = some o :=
    fun b o e => oth b o (Nat.ne_of_lt (Heap.lt_size e)) (up b o e)
  have g0 : GS prog w gb Lg s.heap.objs.size I gI news [] [] ((s.heap.push { cls := .type "list", data := .seq #[] }).update s.heap.objs.size (Obj.mapSeq fun _ => (#[] : Array Value))) :=
    ⟨fun b o e => old b o (base b o e), fun p hp => old _ _ (nw p hp), hg.keeps old, .nil, fun p hp => nomatch hp⟩
  refine gen_extend (A := A.in1) (c := nx #[] #[] 0) (res := .none) hh (by show A.depth + 4 < _; omega) hlim hS0 hn (Nat.ne_of_lt hIl) hV hS₂ g0 hgs ?_ ?_
  · intro h' tk c' k eS
    have k' : ∀ b o, s.heap.get? b = some o → h'.get? b = some o := fun b o e => k b o (Nat.ne_of_lt (Heap.lt_size e)) (old b o e)
    exact ⟨rfl, seg _ _ c' k' (fun b o e => Heap.lt_size e) (g0.keep hS0 hn (Nat.ne_of_lt hIl) k) eS⟩
  · intro h' tk ds' c' gens' z1 z2 z3 z4 z5
    exact ⟨rfl, done _ h' tk ds' c' gens' hn hS0 z1 z2 z3 z4 z5⟩
end
end PartD33

section PartD34
open PySem PySem.Calls PySem.W PyProof.Rows Builtin
set_option maxRecDepth 100000
set_option maxHeartbeats 4000000
/-- a generator that was made and not yet drawn from -/
structure Ready (K : Frag) (p : Program) (loose : List PySem.Str) (mean : ExcName → Option Value) (mg mb : PySem.Str → Option Value) (gb : Heap) (Lg I : Addr) (gI : Nat) (mG : PySem.Str → Option Value) (cells news : List (Addr × Obj)) (h₁ : Heap) : Prop where
  frg : Fr gb Lg h₁ mG
  nwg : News gb Lg h₁ (cells ++ news)
  X : K.In gb
  T : Top p loose mean mg mb gb
  gen : h₁.IsGen I gI
  gbI : gb.get? I = none
  lt : ∀ q ∈ cells ++ news, q.1 < I
  ltL : @LT.lt Nat _ Lg I
/-- the caller's frame stands on the generator's ground -/
structure Back (h₀ gb : Heap) (L : Addr) (m : PySem.Str → Option Value) : Prop where
  fr : ∀ h', (∀ b o, gb.get? b = some o → h'.get? b = some o) → Fr h₀ L h' m
  sep : ∀ b, gb.get? b = none → b ≠ L ∧ h₀.get? b = none

section
variable {prog : Program} {w : World} {A : Around} {s : Shared} {h₀ : Heap} {L : Addr} {m : PySem.Str → Option Value} {news : List (Addr × Obj)} {K : Frag} {p : Program} {loose : List PySem.Str} {mean : ExcName → Option Value} {mg mb : PySem.Str → Option Value}
    {Q : Value → Shared → Prop} {E : Value → Shared → Prop} {name qual : PySem.Str} {params : Arguments} {body : List Stmt} {scope : Scope} {dV kV doc pm cdv ct oc : Value} {an od : Option Addr} {osl : Array (Option Value)} {f : Addr} {pos : List Value} {binds : List (PySem.Str × Value)}
theorem gen_make (F : Fr h₀ L s.heap m) (X₀ : K.In h₀) (N : News h₀ L s.heap news) (T : Top p loose mean mg mb h₀)
    (ho : K.lookup f = some ⟨oc, od, .func (fnOf name qual params body scope dV kV doc pm an cdv ct), osl⟩) (hcd : codeIn K cdv qual = true) (hroom : A.depth < recursionLimit)
    (hbind : BindsTo s (fnOf name qual params body scope dV kV doc pm an cdv ct) ⟨pos, []⟩ binds) (hkind : (binds.all fun y => scope.names.lookup y.1 == some .local || scope.names.lookup y.1 == some .cell) = true)
    (hnd : ((cellsFrom 0 scope.names []).map (·.1)).Nodup)
    (h : ∀ gb Lg I h₁ tk cells, CellsAre (bindC (envOfC qual scope Lg f cdv).kindOf binds fun _ => none) (cellsFrom (Lg + 1) scope.names []) cells →
      Ready K p loose mean mg mb gb Lg I s.gens.size (bindL (envOfC qual scope Lg f cdv).kindOf binds fun _ => none) cells news h₁ → Back h₀ gb L m → News h₀ L h₁ news →
      (s.gens.push (.fresh (.func body (envOfC qual scope Lg f cdv))))[s.gens.size]? = some (.fresh (.func body (envOfC qual scope Lg f cdv))) → (∀ q ∈ news, q.1 < Lg) →
      Q (.ref I) { s with heap := h₁, gens := s.gens.push (.fresh (.func body (envOfC qual scope Lg f cdv))), toks := tk })
    (hco : scope.isCoroutine = false) (hgen : scope.isGenerator = true) (hk : scope.kind = .function) : wpAny (model prog w) A (call (.ref f) pos) Q E s := by
  have X := X₀.keeps F.keep
  have nm : ∀ b o, h₀.get? b = some o → b ∉ news.map (·.1) := fun b o e q => by
    obtain ⟨p, hp, rfl⟩ := List.mem_map.mp q
    rw [(N p hp).2.2] at e; cases e
  have st : ∀ b o, h₀.get? b = some o → (hideAll s.heap (news.map (·.1))).get? b = some o := fun b o e => hideAll_get _ (F.keep b o e) (nm b o e)
  obtain ⟨oL, es, ep, hL, hLd, hLk, hLf⟩ := F.ns
  have nL : L ∉ news.map (·.1) := fun q => by
    obtain ⟨p, hp, e⟩ := List.mem_map.mp q
    exact (N p hp).2.1 e
  have hLg := hideAll_get (news.map (·.1)) hL nL
  refine wpAny_call (codeAny_call_generator (fd := fnOf name qual params body scope dV kV doc pm an cdv ct) (body := body) hroom (X _ _ ho) rfl hco hgen rfl (codeRec_of X hcd) (hbind _ _ _ _ ?_))
  refine wpAny_newFunctionEnv_cells hk (kindsX hkind _) fun env' he s' x => ?_
  subst he
  obtain ⟨h₁, tk, rfl, _⟩ := x.done
  have hk₁ := x.toInCall.keep
  refine ⟨(T.nolimit.keeps F.keep).keeps hk₁, ?_⟩
  obtain ⟨cells, NC, Y⟩ := Cl.news (h₀ := s.heap) (Nat.le_refl _) fun n c hm => ⟨x.cell n c (lookup_of_mem_nodup (cellsFrom_names scope.names 0 (s.heap.objs.size + 1) [] [] rfl ▸ hnd) hm), x.above n c hm⟩
  have up : ∀ (o : Obj) b o', h₁.get? b = some o' → (h₁.push o).get? b = some o' := fun o b o' e => Heap.get?_push_of_some _ e
  have FG : ∀ o : Obj, Fr (hideAll s.heap (news.map (·.1))) s.heap.objs.size (h₁.push o) (bindL (envOfC qual scope s.heap.objs.size f cdv).kindOf binds fun _ => none) := fun o =>
    Fr.push ⟨x.toInCall.ns, fun b o e => hk₁ b o (of_hideAll _ e), Nat.le_of_eq (hideAll_size _ _)⟩ o
  have NG : ∀ o : Obj, News (hideAll s.heap (news.map (·.1))) s.heap.objs.size (h₁.push o) (cells ++ news) := fun o p hp => by
    rcases List.mem_append.mp hp with hp | hp
    · refine ⟨up _ _ _ (NC p hp).1, (NC p hp).2.1, ?_⟩
      cases q : (hideAll s.heap (news.map (·.1))).get? p.1 with
      | none => rfl
      | some o => have := of_hideAll _ q; rw [(NC p hp).2.2] at this; cases this
    · exact ⟨up _ _ _ (hk₁ _ _ (N p hp).1), Nat.ne_of_lt (Heap.lt_size (N p hp).1), hideAll_none _ (List.mem_map_of_mem hp)⟩
  have hI0 : (hideAll s.heap (news.map (·.1))).get? h₁.objs.size = none := by
    cases q : (hideAll s.heap (news.map (·.1))).get? h₁.objs.size with
    | none => rfl
    | some o => exact absurd (Heap.lt_size (hk₁ _ _ (of_hideAll _ q))) (Nat.lt_irrefl _)
  have hlt : ∀ q ∈ cells ++ news, q.1 < h₁.objs.size := fun p hp => by
    rcases List.mem_append.mp hp with hp | hp
    · exact Heap.lt_size (NC p hp).1
    · exact Heap.lt_size (hk₁ _ _ (N p hp).1)
  refine h _ s.heap.objs.size h₁.objs.size _ _ cells Y ⟨FG _, NG _, X₀.keeps st, T.keeps st, ⟨_, _, _, Heap.get?_push_size _ rfl, rfl, rfl, rfl⟩, hI0, hlt, x.toInCall.ns.lt⟩ ⟨fun h' k => ?_, fun b e => ?_⟩ (fun p hp => ⟨up _ _ _ (hk₁ _ _ (N p hp).1), (N p hp).2⟩) (by simp) fun p hp => Heap.lt_size (N p hp).1
  · exact ⟨⟨oL, es, ep, k L oL hLg, hLd, hLk, hLf⟩, fun b o e => k b o (st b o e), F.above⟩
  · refine ⟨fun z => (by rw [z, hLg] at e; cases e), ?_⟩
    cases q : h₀.get? b with
    | none => rfl
    | some o => rw [st _ _ q] at e; cases e
end
end PartD34

section PartD35
open PySem PySem.Calls PySem.W PyProof.Rows Builtin
open PyProof.Rows.LCg PyProof.Rows.LCt
set_option maxRecDepth 100000
set_option maxHeartbeats 4000000
section
variable {prog : Program} {w : World} {A : Around} {E : Value → Shared → Prop} {s : Shared} {h₀ : Heap} {L : Addr} {m : PySem.Str → Option Value} {env : Env}
theorem walks_key1 {I d : Addr} {o : Obj} {k : PySem.Str} {v : Value} {ep : Nat} (hh : A.handled = none) (hne : d ≠ I) (hat : ∀ h : Heap, h.get? d = some o → h.DictAt (PySem.strKind prog w) d [(k, v)] ep) :
    Walks prog w A I [I, d] [I] 1 (fun _ x => ∃ t, x = .str k t) (fun i h => h.IsKeyIter I d i 1 ep ∧ h.get? d = some o) where
  sub := fun b hb => by simp at hb; simp [hb]
  frame := fun _ _ _ st hk => ⟨st.1.at fun o e => hk I (by simp) o e, hk d (by simp) _ st.2⟩
  item := fun i s Q E hi st hQ => by
    have hi0 : i = 0 := by omega
    subst hi0
    refine wpAny_pyNext_dict_item (kvs := [(k, v)]) st.1 (hat _ st.2) (k := k) (v := v) rfl fun key h' hkey hit' hs' => ?_
    obtain ⟨t, rfl⟩ : ∃ t, key = .str k t := Value.isStrOf_shape hkey
    exact hQ _ h' s.toks ⟨t, rfl⟩ ⟨hit', hs'.extBut d _ hne st.2⟩ fun b o hb e => hs'.extBut b o (fun h => hb (by simp [h])) e
  done := fun s Q E st hQ => wpAny_pyNext_dict_end (kvs := [(k, v)]) hh st.1 (hat _ st.2) (by simp) fun h' he' => hQ h' s.toks fun b o hb e => he' b o (fun h => hb (by simp [h])) e
  self := fun _ _ _ _ st hQ => wpAny_pyIter_keyiter st.1 hQ

theorem dict_ep {d : Addr} {o : Obj} {kvs : List (PySem.Str × Value)} {h : Heap} (ho : h.get? d = some o) (hd : o.IsDictOf (PySem.strKind prog w) kvs) : ∃ ep, ∀ h : Heap, h.get? d = some o → h.DictAt (PySem.strKind prog w) d kvs ep := by
  obtain ⟨ep, o', es, e, r⟩ := (Heap.dictOf_iff.mpr ⟨o, ho, hd⟩ : h.DictOf (PySem.strKind prog w) d kvs).dictAt
  rw [ho] at e; cases e
  exact ⟨ep, fun h e => ⟨o, es, e, r⟩⟩

def DSrc (prog : Program) (w : World) (A : Around) (h₀ : Heap) (L : Addr) (m : PySem.Str → Option Value) (env : Env) (elt : PySem.Expr) (x : PySem.Str) (scope : Scope) (cl : List (PySem.Str × Addr)) (Fin : Shared → List Value → List (Addr × Obj) → Prop) (xv : Value) (s₁ : Shared) : Prop :=
  ∃ d o k v news, xv = .ref d ∧ A.handled = none ∧ Fr h₀ L s₁.heap m ∧ News h₀ L s₁.heap news ∧ (d, o) ∈ news ∧ o.IsDictOf (PySem.strKind prog w) [(k, v)] ∧ (d == sysModules) = false ∧
    ∀ s₂ : Shared, (∃ h, s₂ = { s₁ with heap := h }) → CompRest prog w A h₀ L m env elt x scope cl s₂ (fun nw => (d, o) ∈ nw) (fun _ x => ∃ t, x = .str k t) (Fin s₂) 1 0 [] news
def DSrcT (prog : Program) (w : World) (A : Around) (h₀ : Heap) (L : Addr) (m : PySem.Str → Option Value) (env : Env) (ct elt : PySem.Expr) (x : PySem.Str) (scope : Scope) (cl : List (PySem.Str × Addr)) (Fin : Shared → List Value → List (Addr × Obj) → Prop) (xv : Value) (s₁ : Shared) : Prop :=
  ∃ d o k v news, xv = .ref d ∧ A.handled = none ∧ Fr h₀ L s₁.heap m ∧ News h₀ L s₁.heap news ∧ (d, o) ∈ news ∧ o.IsDictOf (PySem.strKind prog w) [(k, v)] ∧ (d == sysModules) = false ∧
    ∀ s₂ : Shared, (∃ h, s₂ = { s₁ with heap := h }) → CompRestT prog w A h₀ L m env ct elt x scope cl s₂ (fun nw => (d, o) ∈ nw) (fun _ x => ∃ t, x = .str k t) (Fin s₂) 1 0 [] news
theorem DSrc.of {elt : PySem.Expr} {x : PySem.Str} {scope : Scope} {cl : List (PySem.Str × Addr)} {Fin : Shared → List Value → List (Addr × Obj) → Prop} {d : Addr} {o : Obj} {k : PySem.Str} {v : Value} {news : List (Addr × Obj)} {s₁ : Shared}
    (hh : A.handled = none) (F : Fr h₀ L s₁.heap m) (N : News h₀ L s₁.heap news) (hm : (d, o) ∈ news) (hd : o.IsDictOf (PySem.strKind prog w) [(k, v)]) (lo : (d == sysModules) = false)
    (h : ∀ g, CompRest prog w A h₀ L m env elt x scope cl { s₁ with heap := g } (fun nw => (d, o) ∈ nw) (fun _ x => ∃ t, x = .str k t) (Fin { s₁ with heap := g }) 1 0 [] news) :
    DSrc prog w A h₀ L m env elt x scope cl Fin (.ref d) s₁ := ⟨d, o, k, v, news, rfl, hh, F, N, hm, hd, lo, fun _ ⟨g, e⟩ => e ▸ h g⟩
theorem DSrcT.of {ct elt : PySem.Expr} {x : PySem.Str} {scope : Scope} {cl : List (PySem.Str × Addr)} {Fin : Shared → List Value → List (Addr × Obj) → Prop} {d : Addr} {o : Obj} {k : PySem.Str} {v : Value} {news : List (Addr × Obj)} {s₁ : Shared}
    (hh : A.handled = none) (F : Fr h₀ L s₁.heap m) (N : News h₀ L s₁.heap news) (hm : (d, o) ∈ news) (hd : o.IsDictOf (PySem.strKind prog w) [(k, v)]) (lo : (d == sysModules) = false)
    (h : ∀ g, CompRestT prog w A h₀ L m env ct elt x scope cl { s₁ with heap := g } (fun nw => (d, o) ∈ nw) (fun _ x => ∃ t, x = .str k t) (Fin { s₁ with heap := g }) 1 0 [] news) :
    DSrcT prog w A h₀ L m env ct elt x scope cl Fin (.ref d) s₁ := ⟨d, o, k, v, news, rfl, hh, F, N, hm, hd, lo, fun _ ⟨g, e⟩ => e ▸ h g⟩

theorem Assign_ListComp_dict {elt iter : PySem.Expr} {x y : PySem.Str} {px py : Pos} {scope : Scope} {cl : List (PySem.Str × Addr)} {pos spos : Pos} {Q : Flow → Shared → Prop} (_F₀ : Fr h₀ L s.heap m) (hLe : env.locals = L)
    (hsw : swapsWith (.ListComp elt [⟨.Name x px, iter, [], 0⟩] scope pos) (some (.Name y py)) spos.line env = pure true)
    (hclos : closureFor scope env = pure cl) (hcell : ∀ z ∈ scope.names, z.2 ≠ .cell) (hkind : scope.kind = .function)
    (hnames : ∀ z ∈ scope.names, z.2 = .local → scope.names.lookup z.1 = some .local) (hx : scope.names.lookup x = some .local)
    (hy : env.kindOf y = some .local) (hp : (env.scope.kind == .class || (env.scope.kind == .module && env.locals != env.globals)) = false)
    (h : wpAny (model prog w) A (eval iter env) (DSrc prog w A h₀ L m env elt x scope cl (fun s₂ => FinA h₀ L m s₂ y Q)) E s)
    (hs : ∀ x, foldedSetIterable iter env x = pure x) :
    wpAny (model prog w) A (exec (.Assign [.Name y py] (.ListComp elt [⟨.Name x px, iter, [], 0⟩] scope pos) spos) env) Q E s := by
  subst hLe
  rw [exec_Assign_Name_used _ _ _ _ hsw]
  refine wpAny_bind (wpAny_standAt (wpAny_bind ?_))
  show wpAny _ A (do let _ ← comprehension (.ListComp elt [⟨.Name x px, iter, [], 0⟩] scope pos) scope env _ (newList []) false (eval iter env) (some (assign (.Name y py) env))) _ _ s
  refine wpAny_bind (wpAny_mono (wpAny_comprehension_free (use := some (assign (.Name y py) env)) (Q := fun _ s' => Q .next s') rfl hs hclos hkind hnames
    (wpAny_mono h (fun xv s₁ h₁ => ?_) fun _ _ e => e)) (fun _ s' hq => wpAny_pure (wpAny_pure hq)) fun _ _ e => e)
  obtain ⟨d, o, k, v, news, rfl, hh, F, N, hm, hd, lo, R⟩ := h₁
  have hD : s₁.heap.DictOf (PySem.strKind prog w) d [(k, v)] := Heap.dictOf_iff.mpr ⟨o, (N _ hm).1, hd⟩
  obtain ⟨ep, hat⟩ := dict_ep (N _ hm).1 hd
  have hlt : d < s₁.heap.objs.size := Heap.lt_size (N _ hm).1
  refine wpAny_pyIter_dict lo (hat _ (N _ hm).1) ?_
  have up : ∀ b o, s₁.heap.get? b = some o → (s₁.heap.push { cls := .type "dict_keyiterator", data := .fields #[.ref d, .int 0 0, .int [(k, v)].length 0, .int ep 0] }).get? b = some o := fun b o e => Heap.get?_push_of_some _ e
  refine block_U (walks_key1 hh (Nat.ne_of_lt hlt) hat) (by rw [sizeLine_eq]; omega) (fun i h st => by obtain ⟨o, e, _⟩ := st.1; exact ⟨o, e⟩)
    (fun i h h' o' nw st e e' _ N' hS => ⟨by obtain ⟨o2, q, r⟩ := st.1; rw [e] at q; cases q; exact ⟨o', e', r⟩, (N' _ hS).1⟩) hcell hkind hx ⟨⟨_, Heap.get?_push_size _ rfl, rfl, rfl⟩, up _ _ (N _ hm).1⟩ (fun b hb => ?_)
    (F.keeps up) (N.grown up) (Nat.ne_of_lt F.ns.lt) (next_is_new F) (fun p hp => Nat.ne_of_lt (Heap.lt_size (N p hp).1)) hm (R _ ⟨_, rfl⟩) ?_
  · show b < (s₁.heap.push _).objs.size
    rw [Heap.size_push]
    rcases List.mem_cons.mp hb with rfl | hb
    · exact Nat.lt_succ_self _
    · rw [List.mem_singleton.mp hb]; exact Nat.lt_succ_of_lt hlt
  · intro D C h' tk m' ys news' F' N' o1 hn hC₀ hD₀ hCL hDL hCD offC fin
    show wpAny _ A (assign (.Name y py) env (.ref D)) _ _ _
    refine wpAny_assign_Name (wpAny_storeName_local hy F'.ns (fun h₂ hn₂ hs₂ => ?_) hp)
    have hL₀ : h₀.get? env.locals = none := Heap.get?_none_of_le F'.above
    have F₂ : Fr h₀ env.locals h₂ (fun z => if z = y then some (.ref D) else m z) := ⟨hn₂, fun b o e => hs₂.extBut b o (fun q => by rw [q, hL₀] at e; cases e) (F'.keep b o e), F'.above⟩
    refine ⟨m', hn.sameBut hs₂ hCL, fun h'' hs'' => fin D h'' _ (F₂.change hs'' hCL hC₀) (fun p hp => ?_) o1⟩
    have z : h₂.get? p.1 = some p.2 := hs₂.extBut _ _ (N' p hp).2.1 (N' p hp).1
    refine ⟨hs''.extBut _ _ ?_ z, (N' p hp).2⟩
    rcases List.mem_cons.mp hp with rfl | hp
    · exact Ne.symm hCD
    · exact offC p hp

theorem Assign_ListComp_dictT {ct elt iter : PySem.Expr} {x y : PySem.Str} {px py : Pos} {scope : Scope} {cl : List (PySem.Str × Addr)} {pos spos : Pos} {Q : Flow → Shared → Prop} (_F₀ : Fr h₀ L s.heap m) (hLe : env.locals = L)
    (hsw : swapsWith (.ListComp elt [⟨.Name x px, iter, [ct], 0⟩] scope pos) (some (.Name y py)) spos.line env = pure true)
    (hclos : closureFor scope env = pure cl) (hcell : ∀ z ∈ scope.names, z.2 ≠ .cell) (hkind : scope.kind = .function)
    (hnames : ∀ z ∈ scope.names, z.2 = .local → scope.names.lookup z.1 = some .local) (hx : scope.names.lookup x = some .local)
    (hy : env.kindOf y = some .local) (hp : (env.scope.kind == .class || (env.scope.kind == .module && env.locals != env.globals)) = false)
    (h : wpAny (model prog w) A (eval iter env) (DSrcT prog w A h₀ L m env ct elt x scope cl (fun s₂ => FinA h₀ L m s₂ y Q)) E s)
    (hs : ∀ x, foldedSetIterable iter env x = pure x) :
    wpAny (model prog w) A (exec (.Assign [.Name y py] (.ListComp elt [⟨.Name x px, iter, [ct], 0⟩] scope pos) spos) env) Q E s := by
  subst hLe
  rw [exec_Assign_Name_used _ _ _ _ hsw]
  refine wpAny_bind (wpAny_standAt (wpAny_bind ?_))
  show wpAny _ A (do let _ ← comprehension (.ListComp elt [⟨.Name x px, iter, [ct], 0⟩] scope pos) scope env _ (newList []) false (eval iter env) (some (assign (.Name y py) env))) _ _ s
  refine wpAny_bind (wpAny_mono (wpAny_comprehension_free (use := some (assign (.Name y py) env)) (Q := fun _ s' => Q .next s') rfl hs hclos hkind hnames
    (wpAny_mono h (fun xv s₁ h₁ => ?_) fun _ _ e => e)) (fun _ s' hq => wpAny_pure (wpAny_pure hq)) fun _ _ e => e)
  obtain ⟨d, o, k, v, news, rfl, hh, F, N, hm, hd, lo, R⟩ := h₁
  obtain ⟨ep, hat⟩ := dict_ep (N _ hm).1 hd
  have hlt : d < s₁.heap.objs.size := Heap.lt_size (N _ hm).1
  refine wpAny_pyIter_dict lo (hat _ (N _ hm).1) ?_
  have up : ∀ b o, s₁.heap.get? b = some o → (s₁.heap.push { cls := .type "dict_keyiterator", data := .fields #[.ref d, .int 0 0, .int [(k, v)].length 0, .int ep 0] }).get? b = some o := fun b o e => Heap.get?_push_of_some _ e
  refine block_T (walks_key1 hh (Nat.ne_of_lt hlt) hat) (by rw [sizeLine_eq]; omega) (fun i h st => by obtain ⟨o, e, _⟩ := st.1; exact ⟨o, e⟩)
    (fun i h h' o' nw st e e' _ N' hS => ⟨by obtain ⟨o2, q, r⟩ := st.1; rw [e] at q; cases q; exact ⟨o', e', r⟩, (N' _ hS).1⟩) hcell hkind hx ⟨⟨_, Heap.get?_push_size _ rfl, rfl, rfl⟩, up _ _ (N _ hm).1⟩ (fun b hb => ?_)
    (F.keeps up) (N.grown up) (Nat.ne_of_lt F.ns.lt) (next_is_new F) (fun p hp => Nat.ne_of_lt (Heap.lt_size (N p hp).1)) hm (R _ ⟨_, rfl⟩) ?_
  · show b < (s₁.heap.push _).objs.size
    rw [Heap.size_push]
    rcases List.mem_cons.mp hb with rfl | hb
    · exact Nat.lt_succ_self _
    · rw [List.mem_singleton.mp hb]; exact Nat.lt_succ_of_lt hlt
  · intro D C h' tk m' ys news' F' N' o1 hn hC₀ hD₀ hCL hDL hCD offC fin
    show wpAny _ A (assign (.Name y py) env (.ref D)) _ _ _
    refine wpAny_assign_Name (wpAny_storeName_local hy F'.ns (fun h₂ hn₂ hs₂ => ?_) hp)
    have hL₀ : h₀.get? env.locals = none := Heap.get?_none_of_le F'.above
    have F₂ : Fr h₀ env.locals h₂ (fun z => if z = y then some (.ref D) else m z) := ⟨hn₂, fun b o e => hs₂.extBut b o (fun q => by rw [q, hL₀] at e; cases e) (F'.keep b o e), F'.above⟩
    refine ⟨m', hn.sameBut hs₂ hCL, fun h'' hs'' => fin D h'' _ (F₂.change hs'' hCL hC₀) (fun p hp => ?_) o1⟩
    have z : h₂.get? p.1 = some p.2 := hs₂.extBut _ _ (N' p hp).2.1 (N' p hp).1
    refine ⟨hs''.extBut _ _ ?_ z, (N' p hp).2⟩
    rcases List.mem_cons.mp hp with rfl | hp
    · exact Ne.symm hCD
    · exact offC p hp
end
end PartD35

section PartD36
open PySem PySem.Calls PySem.W PyProof.Rows Builtin
set_option maxRecDepth 100000
set_option maxHeartbeats 4000000
abbrev slvOf (h6 : Int) (t6 : Tok) : List DictEntry := [⟨h6, .str (PySem.Str.ofString "_forwardcheck") t6, .bool true⟩]
theorem compEnd_at1 {h₀ : Heap} {L I C D t : Addr} {m : PySem.Str → Option Value} {s₁ : Shared} {oI oC oD ot : Obj} {S : List (Addr × Obj) → Prop} {rest : Value → List (Addr × Obj) → Prop} {y : Value} {h' : Heap} {tk : Nat} {news' : List (Addr × Obj)}
    (F : Fr h₀ L h' m) (N : News h₀ L h' ((t, ot) :: (I, oI) :: (C, oC) :: (D, oD) :: news')) (off : LCg.Off3 I C D news') (l1 : @LT.lt Nat _ I t) (l2 : @LT.lt Nat _ C t) (l3 : @LT.lt Nat _ D t) (hS : S ((t, ot) :: news')) (r : rest y ((t, ot) :: news')) :
    LCg.CompEnd h₀ L m s₁ I oI C oC D oD S rest y { s₁ with heap := h', toks := tk } :=
  ⟨h', tk, (t, ot) :: news', rfl, F, newsSub N (fun p hp => by simp only [List.mem_cons] at hp ⊢; rcases hp with h | h | h | h | h <;> simp [h]), ⟨⟨Nat.ne_of_gt l1, Nat.ne_of_gt l2, Nat.ne_of_gt l3⟩, off⟩, hS, r⟩
theorem sub_ne {d : Addr} {l full : List (Addr × Obj)} (h : ∀ p ∈ full, p.1 ≠ d) (hs : ∀ p ∈ l, p ∈ full) : ∀ p ∈ l, p.1 ≠ d := fun p hp => h p (hs p hp)
def RestLt (b : Addr) (rest : List (Addr × Obj)) : Prop := ∀ q ∈ rest, q.1 < b
theorem RestLt.ne {b d : Addr} {rest : List (Addr × Obj)} (h : RestLt b rest) (hd : @LE.le Nat _ b d) : ∀ p ∈ rest, p.1 ≠ d := fun p hp => Nat.ne_of_lt (Nat.lt_of_lt_of_le (h p hp) hd)
section
variable {prog : Program} {w : World} {A : Around} {E : Value → Shared → Prop} {s : Shared} {h₀ : Heap} {L : Addr} {m : PySem.Str → Option Value} {news news' : List (Addr × Obj)} {env : Env}
/-- what one turn of a while ends in -/
def OnceEnd (Q : Flow → Shared → Prop) (f : Flow) (s₂ : Shared) : Prop :=
  match f with
  | .brk => Q .next s₂
  | .ret v => Q (.ret v) s₂
  | _ => False
/-- a while that leaves in its first turn, or has none -/
theorem While_once {test : PySem.Expr} {body orelse : List Stmt} {pos : Pos} {Q : Flow → Shared → Prop} (hE : PassesOwn (model prog w) A env E)
    (h : wpAny (model prog w) A (isTrue test env (eval test env)) (fun b s₂ => if b = true then wpAny (model prog w) A (execs body env) (OnceEnd Q) E s₂ else wpAny (model prog w) A (execs orelse env) Q E s₂) E s) :
    wpAny (model prog w) A (exec (.While test body orelse pos) env) Q E s := by
  refine wpAny_While (codeAny_whileLoop (fun n s' => s' = s) ?_ 1 rfl)
  rintro n s' rfl
  refine wpAny_passesOwn hE (wpAny_mono h (fun b s₂ h₂ => ?_) fun _ _ x => x)
  cases b with
  | true =>
    rw [if_pos rfl] at h₂ ⊢
    refine wpAny_passesOwn hE (wpAny_mono h₂ (fun f s₃ h₃ => ?_) fun _ _ x => x)
    cases f with
    | next => exact h₃.elim
    | cont => exact h₃.elim
    | brk => exact h₃
    | ret v => exact h₃
  | false =>
    rw [if_neg Bool.false_ne_true] at h₂ ⊢
    exact wpAny_passesOwn hE h₂

theorem truthy_some {l : Addr} {p : List Value} {y : Value} {c : Nat} {Q : Bool → Shared → Prop} (N : News h₀ L s.heap news) (hl : (l, PySem.W.listOf (p ++ [y]).toArray c) ∈ news) (hz : p.length ≤ 999)
    (h : Q true { s with toks := s.toks + 1 + 1 }) : wpAny (model prog w) A (truthy (.ref l)) Q E s :=
  truthy_led N hl (by simp; omega) (by
    have e : (!(p ++ [y]).isEmpty) = true := by cases p <;> rfl
    rw [e]; exact h)
theorem truthy_one {l : Addr} {y : Value} {c : Nat} {Q : Bool → Shared → Prop} (N : News h₀ L s.heap news) (hl : (l, PySem.W.listOf #[y] c) ∈ news)
    (h : Q true { s with toks := s.toks + 1 + 1 }) : wpAny (model prog w) A (truthy (.ref l)) Q E s :=
  truthy_led (ws := [y]) N hl (by simp) h
theorem truthy_nil {l : Addr} {c : Nat} {Q : Bool → Shared → Prop} (N : News h₀ L s.heap news) (hl : (l, PySem.W.listOf #[] c) ∈ news)
    (h : Q false { s with toks := s.toks + 1 + 1 }) : wpAny (model prog w) A (truthy (.ref l)) Q E s :=
  truthy_led (ws := []) N hl (by simp) h
theorem updFTwo {d : Addr} {o : Obj} : ∀ {l : List (Addr × Obj)} {g : Obj → List (Addr × Obj)}, UpdF d o l g → ∀ o1 o2, Upd d o1 o2 (g o1) (g o2)
  | _, _, .head h, _, _ => .head h
  | _, _, .tail h r, o1, o2 => .tail h (updFTwo r o1 o2)
/-- a list of one item sorted -/
theorem sort_one {l : Addr} {v : Value} {c : Nat} {g : Obj → List (Addr × Obj)} {Q : Value → Shared → Prop} (F : Fr h₀ L s.heap m) (N : News h₀ L s.heap news) (U : UpdF l (PySem.W.listOf #[v] c) news g)
    (h : ∀ h' c', Fr h₀ L h' m → News h₀ L h' (g (PySem.W.listOf #[v] c')) → Q .none { s with heap := h' }) : wpAny (model prog w) A (call (.builtin "list.sort") [.ref l]) Q E s := by
  obtain ⟨hm, U'⟩ := updFMem U
  have ho := (N _ hm).1
  refine wpAny_call_entry PySem.F.slot_list_sort ⟨_, ho, rfl⟩ PySem.F.entry_list_sort ?_ (PySem.F.args_list_sort_1 _)
  rw [list_sort_plain]
  refine wpAny_bind (listItems_at ho rfl ?_)
  refine wpAny_bind (listUpdate_at ho rfl ?_ (hsz := by rw [sizeLine_eq]; simp) (hsz2 := by simp))
  obtain ⟨F1, N1⟩ := updK (f := Obj.mapSeq fun _ => #[]) F N (U' (PySem.W.listOf #[] (nx #[v] #[] c))) (by rw [list_mapSeq]) rfl
  have m1 := updMem (updFTwo U (PySem.W.listOf #[] (nx #[v] #[] c)) (PySem.W.listOf #[] (nx #[v] #[] c)))
  refine wpAny_bind (seqEpoch_at (N1 _ m1).1 rfl ?_)
  refine wpAny_bind (wpAny_newTuple ?_)
  refine wpAny_bind (wpAny_newList ?_)
  refine wpAny_holding ?_
  have F2 := F1.push { cls := .type "tuple", data := .seq (#[v] : Array Value).toList.toArray }
  have N2 := N1.push F1 { cls := .type "tuple", data := .seq (#[v] : Array Value).toList.toArray } rfl
  have F3 := F2.push { cls := .type "list", data := .seq ([] : List Value).toArray }
  have N3 := N2.push F2 { cls := .type "list", data := .seq ([] : List Value).toArray } rfl
  have l1 : l < (s.heap.update l (Obj.mapSeq fun _ => #[])).objs.size := Heap.lt_size (N1 _ m1).1
  have l2 : l < ((s.heap.update l (Obj.mapSeq fun _ => #[])).push { cls := .type "tuple", data := .seq (#[v] : Array Value).toList.toArray }).objs.size := Heap.lt_size (N2 _ (.tail _ m1)).1
  dsimp only
  have h2 : (#[v] : Array Value).size < 2 := by simp
  rw [if_pos h2, if_pos h2]
  refine wpAny_bind (wpAny_pure ?_)
  rw [StateT.run_pure]
  refine wpAny_bind (wpAny_pure ?_)
  dsimp only
  have ho6 := (N3 _ (.tail _ (.tail _ m1))).1
  have hz : Array.map (fun x => x.2) (arrOf (SortSt.mk' general' ((#[v] : Array Value).zip #[v]) #[] 7 none)) = #[v] := by
    show Array.map (fun x => x.2) ((#[v] : Array Value).zip #[v]) = #[v]
    simp
  rw [hz]
  refine wpAny_bind (seqEpoch_at ho6 rfl ?_)
  refine wpAny_bind (listUpdate_at ho6 rfl ?_ (hsz := by rw [sizeLine_eq]; simp) (hsz2 := by simp))
  obtain ⟨F4, N4⟩ := updK (f := Obj.mapSeq fun _ => #[v]) F3 N3 (.tail (Nat.ne_of_gt l2) (.tail (Nat.ne_of_gt l1) (updFTwo U (PySem.W.listOf #[] (nx #[v] #[] c)) (PySem.W.listOf #[v] (nx #[] #[v] (nx #[v] #[] c)))))) (by rw [list_mapSeq]) rfl
  simp only [bne_self_eq_false, Bool.false_eq_true, if_false]
  exact wpAny_pure ⟨_, rfl, h _ _ F4 fun p hp => N4 p (.tail _ (.tail _ hp))⟩
theorem pop_one {D : Addr} {y : Value} {n : Nat} {Q : Value → Shared → Prop} (F : Fr h₀ L s.heap m) (N : News h₀ L s.heap news) (U : Upd D (PySem.W.listOf #[y] n) (PySem.W.listOf #[] (n + 1)) news news')
    (h : ∀ h', Fr h₀ L h' m → News h₀ L h' news' → Q y { s with heap := h' }) : wpAny (model prog w) A (call (.builtin "list.pop") [.ref D]) Q E s :=
  pop_snoc (p := []) F N U (by rw [sizeLine_eq]; simp) h
end

section
variable {prog : Program} {w : World} {A : Around} {R : GenEnd} {Y : Protocol} {n : Nat} {s₀ : Shared} {c : Code} {fs : List Frame} {s : Shared} {env : Env}
  {K : Flow → Sem Fin} {H : Value → Sem Fin} {gd : Bool → Bool} {lv : List Value → List Value} {h₀ : Heap} {L : Addr}
/-- behind the one turn of a for inside the generator -/
def SegOne (prog : Program) (w : World) (A : Around) (R : GenEnd) (Y : Protocol) (n : Nat) (s₀ : Shared) (cf : Code) (fs : List Frame) (orelse : List Stmt) (env : Env) (h₀ : Heap) (L I : Addr) (kept : List (Addr × Obj)) (f : Flow) (s₃ : Shared) : Prop :=
  match f with
  | .brk => Seg (model prog w) A R Y n s₀ cf (leafOf (.ok .next)) fs s₃
  | .ret v => Seg (model prog w) A R Y n s₀ cf (leafOf (.ok (.ret v))) fs s₃
  | _ => ∃ m' nx nx', Fr h₀ L s₃.heap m' ∧ News h₀ L s₃.heap nx ∧ Rem I nx nx' ∧ (∀ p ∈ kept, p ∈ nx) ∧ ∀ h'' tk'', Fr h₀ L h'' m' → News h₀ L h'' nx' → Seg (model prog w) A R Y n s₀ (.block orelse env) ((model prog w).den (.block orelse env)) fs { s₃ with heap := h'', toks := tk'' }

/-- the source of a for over a list of one item -/
def SegSrc (prog : Program) (w : World) (A : Around) (R : GenEnd) (Y : Protocol) (n : Nat) (s₀ : Shared) (c : Code) (fs : List Frame) (target : PySem.Expr) (body orelse : List Stmt) (env : Env) (h₀ : Heap) (L : Addr) (fr : Pos → Frame) (xv : Value) (s₁ : Shared) : Prop :=
  ∃ l v cc m news, xv = .ref l ∧ Fr h₀ L s₁.heap m ∧ News h₀ L s₁.heap news ∧ (l, PySem.W.listOf #[v] cc) ∈ news ∧ ∀ p I oI h' tk, Fr h₀ L h' m → News h₀ L h' ((I, oI) :: news) → (∀ q ∈ news, q.1 < I) →
    wpAny (model prog w) (A.over (.forLoop target (.ref I) body orelse env) (fr p :: fs)) (assign target env v) (fun _ s₂ => wpAny (model prog w) (A.over (.forLoop target (.ref I) body orelse env) (fr p :: fs)) (execs body env)
      (SegOne prog w A R Y n s₀ (.forLoop target (.ref I) body orelse env) (fr p :: fs) orelse env h₀ L I [(I, oI), (l, PySem.W.listOf #[v] cc)]) (fun _ _ => False) s₂) (fun _ _ => False) { s₁ with heap := h', toks := tk }

theorem seg_For1 {target iter : PySem.Expr} {body orelse : List Stmt} {pos : Pos} (hs : ∀ x, foldedSetIterable iter env x = pure x) (hh : ∀ it p, (A.over (.forLoop target it body orelse env) ((.ret (fun r => ((match r with | .ok f => (.pure f : Sem Flow) | .error e => .raise e).onRaise fun (x : Value) => do
        if (← field x 1) == Value.none then unsupported "frame.own-activation:exception-without-traceback"
        setFlight x env.frame).wrap K H gd lv) none (gd false) (lv []) c p []) :: fs)).handled = none)
    (h : wpAny (model prog w) (A.over c fs) (eval iter env) (SegSrc prog w A R Y n s₀ c fs target body orelse env h₀ L (fun p => .ret (fun r => ((match r with | .ok f => (.pure f : Sem Flow) | .error e => .raise e).onRaise fun (x : Value) => do
        if (← field x 1) == Value.none then unsupported "frame.own-activation:exception-without-traceback"
        setFlight x env.frame).wrap K H gd lv) none (gd false) (lv []) c p [])) (fun _ _ => False) s) (ht : ∀ I v, letOwnedTupleGo target (.ref I) v = pure ()) :
    Seg (model prog w) A R Y n s₀ c ((exec (.For target iter body orelse pos) env).wrap K H gd lv) fs s := by
  refine seg_For hs (wpAny_mono h (fun xv s₁ h₁ => ?_) fun _ _ x => x)
  obtain ⟨l, v, cc, m, news, rfl, F, N, hl, turn⟩ := h₁
  have hls : s₁.heap.IsList l #[v] := News.isList N hl
  have hlt : l < s₁.heap.objs.size := Heap.lt_size (N _ hl).1
  refine wpAny_pyIter_list hls fun p => ?_
  have up : ∀ b o, s₁.heap.get? b = some o → (s₁.heap.push { cls := .type "list_iterator", data := .fields #[.ref l, .int 0 0] }).get? b = some o := fun b o e => Heap.get?_push_of_some _ e
  have hI0 : h₀.get? s₁.heap.objs.size = none := next_is_new F
  have hIL : s₁.heap.objs.size ≠ L := Nat.ne_of_gt F.ns.lt
  refine seg_forLoop (ht _) ?_
  refine wpAny_pyNext_list_item ⟨_, Heap.get?_push_size _ rfl, rfl, rfl⟩ (listPushed hls) (x := v) rfl fun h' hit' hs' => ?_
  have k : ∀ b o, s₁.heap.get? b = some o → h'.get? b = some o := fun b o e => hs'.extBut b o (Nat.ne_of_lt (Heap.lt_size e)) (up b o e)
  obtain ⟨oI, hoI, hc⟩ := id hit'
  have F' : Fr h₀ L h' m := by
    obtain ⟨oL, a1, a2, hL, a3⟩ := F.ns
    exact ⟨⟨oL, a1, a2, k _ _ hL, a3⟩, fun b o e => k _ _ (F.keep b o e), F.above⟩
  have N' : News h₀ L h' ((s₁.heap.objs.size, oI) :: news) := fun p hp => by
    rcases List.mem_cons.mp hp with rfl | hp
    · exact ⟨hoI, hIL, hI0⟩
    · exact ⟨k _ _ (N p hp).1, (N p hp).2⟩
  dsimp only
  refine wpAny_mono (turn p s₁.heap.objs.size oI h' _ F' N' fun q hq => Heap.lt_size (N q hq).1) (fun _ s₂ h₂ => wpAny_mono h₂ (fun f s₃ h₃ => ?_) fun _ _ x => x) fun _ _ x => x
  have fin : (∃ m' nx nx', Fr h₀ L s₃.heap m' ∧ News h₀ L s₃.heap nx ∧ Rem s₁.heap.objs.size nx nx' ∧ (∀ p ∈ [(s₁.heap.objs.size, oI), (l, PySem.W.listOf #[v] cc)], p ∈ nx) ∧ ∀ h'' tk'', Fr h₀ L h'' m' → News h₀ L h'' nx' → Seg (model prog w) A R Y n s₀ (.block orelse env) ((model prog w).den (.block orelse env))
      (.ret (fun r => ((match r with | .ok f => (.pure f : Sem Flow) | .error e => .raise e).onRaise fun (x : Value) => do
        if (← field x 1) == Value.none then unsupported "frame.own-activation:exception-without-traceback"
        setFlight x env.frame).wrap K H gd lv) none (gd false) (lv []) c p [] :: fs) { s₃ with heap := h'', toks := tk'' }) →
      Seg (model prog w) A R Y n s₀ (.forLoop target (.ref s₁.heap.objs.size) body orelse env) ((model prog w).den (.forLoop target (.ref s₁.heap.objs.size) body orelse env)) (.ret (fun r => ((match r with | .ok f => (.pure f : Sem Flow) | .error e => .raise e).onRaise fun (x : Value) => do
        if (← field x 1) == Value.none then unsupported "frame.own-activation:exception-without-traceback"
        setFlight x env.frame).wrap K H gd lv) none (gd false) (lv []) c p [] :: fs) s₃ := by
    rintro ⟨m', nx, nx', F₃, N₃, hr, hk, after⟩
    refine seg_forLoop (ht _) ?_
    have e1 := (N₃ _ (hk _ (.head _))).1
    have e2 := (N₃ _ (hk _ (.tail _ (.head _)))).1
    refine wpAny_pyNext_list_end (hh _ _) ⟨oI, e1, hc⟩ ⟨_, e2, rfl, _, rfl⟩ rfl fun h'' he => ?_
    exact after h'' s₃.toks (fr_but F₃ hI0 hIL fun b o hb e => he b o hb e) fun p hp => ⟨he _ _ (hr.sub p hp).2 (N₃ p (hr.sub p hp).1).1, (N₃ p (hr.sub p hp).1).2⟩
  cases f with
  | next => exact fin h₃
  | cont => exact fin h₃
  | brk => exact h₃
  | ret v => exact h₃
end
end PartD36

section PartD37
open PySem PySem.Calls PySem.W PyProof.Rows Builtin
set_option maxRecDepth 100000
set_option maxHeartbeats 4000000
section
variable {prog : Program} {w : World} {A : Around} {E : Value → Shared → Prop} {s : Shared} {K : Frag} {x C dx L : Addr} {h₀ : Heap} {m : PySem.Str → Option Value} {news : List (Addr × Obj)} {od : Obj} {n : Nat} {vs : List Value}
theorem pick_all {vs : List Value} : slicePick vs.toArray none none none = vs.toArray := by
  have e : sliceBounds none none none vs.toArray.size = (((0 : Nat) : Int), ((vs.length : Nat) : Int), 1) := by
    simp [sliceBounds]
  rw [kmk_pick_nat _ e]
  simp
theorem slice_domK {value slice : PySem.Expr} {Q : Value → Shared → Prop} (F : Fr h₀ L s.heap m) (X₀ : K.In h₀) (N : News h₀ L s.heap news) (Y : LC K C) (hx : (x, domObj C dx vs.toArray n) ∈ news) (hd : (dx, od) ∈ news)
    (hq : noSeq K C = true) (hg : findIn K (.ref C) "__getitem__" = some (some (.builtin "list.__getitem__"))) (hz : vs.length ≤ 1000)
    (hs : ∀ i, ∃ ops, subscripted slice false (.ref x) i = operate ops (getItem (.ref x) i))
    (h : ∀ D h', Fr h₀ L h' m → News h₀ L h' ((D, PySem.W.listOf vs.toArray 0) :: news) → (∀ p ∈ news, p.1 < D) → Q (.ref D) { s with heap := h' }) :
    wpAny (model prog w) A (subscriptTail value slice (.ref x) (.ref s.heap.objs.size)) Q E { s with heap := s.heap.push { cls := .type "slice", data := .fields #[.none, .none, .none] } } := by
  have F1 := F.push { cls := .type "slice", data := .fields #[Value.none, Value.none, Value.none] }
  have N1 := N.push F { cls := .type "slice", data := .fields #[Value.none, Value.none, Value.none] } rfl
  have X := X₀.keeps F1.keep
  have I := instD N1 (.tail _ hx) (.tail _ hd)
  have hsl : (s.heap.push { cls := .type "slice", data := .fields #[Value.none, Value.none, Value.none] }).IsSliceOf s.heap.objs.size .none .none .none := Heap.IsSliceOf.new ..
  obtain ⟨os, hos, hcs, hds⟩ := id hsl
  have hTs : ({ s with heap := s.heap.push { cls := .type "slice", data := .fields #[Value.none, Value.none, Value.none] } } : Shared).TypeIs (.ref s.heap.objs.size) "slice" := ⟨os, hos, hcs⟩
  have ho := (N1 _ (.tail _ hx)).1
  have L1 : Looks (model prog w) (s.heap.push { cls := .type "slice", data := .fields #[Value.none, Value.none, Value.none] }) (specialOf (.ref x) "__getitem__") (some (.builtin "list.__getitem__")) := I.type.andThen (looks_findIn X hg)
  obtain ⟨ops, hs⟩ := hs (.ref s.heap.objs.size)
  unfold subscriptTail
  refine wpAny_bind ?_
  have fin : wpAny (model prog w) A (subscripted slice false (.ref x) (.ref s.heap.objs.size)) (fun r s₃ => wpAny (model prog w) A (letTemporaryGo value (.ref x) r >>= fun _ => pure r) Q E s₃) E { s with heap := s.heap.push { cls := .type "slice", data := .fields #[.none, .none, .none] } } := by
    rw [hs]
    refine wpAny_operating ?_
    have q : ∀ r s₃, Q r s₃ → wpAny (model prog w) A (letTemporaryGo value (.ref x) r >>= fun _ => pure r) Q E s₃ := fun r s₃ h₃ => wpAny_bind (wpAny_letTemporaryGo (wpAny_pure h₃))
    unfold getItem sequenceKey
    refine wpAny_holding (wpAny_bind (wpAny_bind (I.type.here ?_)))
    refine wpAny_bind ((anyM_none X hq).here ?_)
    rw [if_pos (show (!false) = true from rfl)]
    refine wpAny_pure (wpAny_bind ?_)
    refine special_look L1 (slot_list_getitem.bind _) ?_
    refine call_dom (n := "__getitem__") (.inr (by decide +kernel)) (by decide +kernel) (Y.sub X I) (args_list_getitem _ _) (by decide +kernel) entry_list_getitem ?_
    show wpAny _ _ (Builtin.List.listSubscript? (.ref s.heap.objs.size) >>= _) _ _ _
    refine wpAny_bind ?_
    · unfold Builtin.List.listSubscript?
      refine wpAny_bind (wpAny_specialOf hTs slice_no_index ?_)
      simp only [Option.isNone_none, if_true]
      refine wpAny_pure ?_
      show wpAny _ _ (typeOf (.ref s.heap.objs.size) >>= _) _ _ _
      refine wpAny_bind (wpAny_typeOf hTs ?_)
      rw [if_neg (by decide)]
      rw [listSliceParts_eq]
      refine wpAny_bind (wpAny_bind (wpAny_field hos hds (x := .none) rfl (wpAny_bind (wpAny_listPart .none ?_))))
      rw [if_neg (by decide)]
      refine wpAny_bind (wpAny_field hos hds (x := .none) rfl (wpAny_bind (wpAny_listPart .none ?_)))
      refine wpAny_bind (wpAny_field hos hds (x := .none) rfl (wpAny_bind (wpAny_listPart .none (wpAny_pure ?_))))
      refine wpAny_bind (m := Builtin.List.listItems (.ref x)) ?_
      unfold Builtin.List.listItems
      refine wpAny_bind (wpAny_seqItems ho rfl (wpAny_pure ?_))
      refine wpAny_bind (wpAny_of_eq (sliceIndices_raw none none none vs.toArray.size (by simp)) ?_)
      refine wpAny_bind (wpAny_newObj_type ?_ (Nat.le_trans (slicePick_size_le vs.toArray none none none) (by rw [List.size_toArray, sizeLine_eq]; omega)))
      refine wpAny_pure (wpAny_pure (q _ _ ?_))
      have N2 := N1.push F1 { cls := .type "list", data := .seq (slicePick vs.toArray none none none) } rfl
      have F2 := F1.push { cls := .type "list", data := .seq (slicePick vs.toArray none none none) }
      refine h _ _ F2 ?_ ?_
      · rw [pick_all] at N2
        have e := pick_all (vs := vs)
        unfold slicePick at e
        dsimp only at e ⊢
        rw [e]
        exact newsSub N2 fun p hp => by simp only [List.mem_cons] at hp ⊢; rcases hp with h | h <;> simp [h]
      · intro p hp
        exact Heap.lt_size (N1 p (.tail _ hp)).1
  unfold getitemInPython
  refine wpAny_bind (L1.here ?_)
  exact wpAny_pure (wpAny_bind fin)
end
end PartD37

section PartD38
open PySem PySem.Calls PySem.W PyProof.Rows Builtin
set_option maxRecDepth 100000
set_option maxHeartbeats 4000000
theorem offGet {a b : Addr} {o : Obj} {l : List (Addr × Obj)} (h : ∀ p ∈ l, p.1 ≠ b) (m : (a, o) ∈ l) : @Ne Addr a b := h _ m
theorem offGetS {a b : Addr} {o : Obj} {l : List (Addr × Obj)} (h : ∀ p ∈ l, p.1 ≠ a) (m : (b, o) ∈ l) : @Ne Addr a b := (h _ m).symm
section
variable {prog : Program} {w : World} {A : Around} {E : Value → Shared → Prop} {s : Shared} {h₀ : Heap} {L : Addr} {m : PySem.Str → Option Value} {news : List (Addr × Obj)}
theorem dict_one {value slice : PySem.Expr} {d : Addr} {o : Obj} {k : PySem.Str} {v : Value} {t : Tok} {Q : Value → Shared → Prop} (N : News h₀ L s.heap news) (hp : (d, o) ∈ news) (hd : o.IsDictOf (PySem.strKind prog w) [(k, v)])
    (h : Q v { s with toks := s.toks + 1 }) (hs : subscripted slice false (.ref d) (.str k t) = operate [.ref d, .str k t] (getItem (.ref d) (.str k t))) : wpAny (model prog w) A (subscriptTail value slice (.ref d) (.str k t)) Q E s := by
  have hD : s.heap.DictOf (PySem.strKind prog w) d [(k, v)] := Heap.dictOf_iff.mpr ⟨o, (N _ hp).1, hd⟩
  exact tail_any hD.typeIs slot_dict_getitem.lookup (wpAny_getItem_of (strKind_is prog w k t) hD.mapOf (by simp [valueAt]) h) hs
theorem set_a0 {d : Addr} {o : Obj} {g : Obj → List (Addr × Obj)} {t : Tok} {v : Value} {Q : Unit → Shared → Prop} (F : Fr h₀ L s.heap m) (N : News h₀ L s.heap news) (U : UpdF d o news g) (hd : o.IsDictOf (PySem.strKind prog w) [])
    (h : ∀ h' o', Fr h₀ L h' m → News h₀ L h' (g o') → o'.IsDictOf (PySem.strKind prog w) [(keyA, v)] → Q () { s with heap := h', toks := s.toks + 1 }) : wpAny (model prog w) A (setItem (.ref d) (.str keyA t) v) Q E s :=
  kda_set F N U hd (strKind_is prog w keyA t) (Nat.zero_le _) fun h' o' F' N' hd' => h h' o' F' N' (by simpa [stored] using hd')
theorem set_a1 {d : Addr} {o : Obj} {g : Obj → List (Addr × Obj)} {t : Tok} {u v : Value} {Q : Unit → Shared → Prop} (F : Fr h₀ L s.heap m) (N : News h₀ L s.heap news) (U : UpdF d o news g) (hd : o.IsDictOf (PySem.strKind prog w) [(keyA, u)])
    (h : ∀ h' o', Fr h₀ L h' m → News h₀ L h' (g o') → o'.IsDictOf (PySem.strKind prog w) [(keyA, v)] → Q () { s with heap := h', toks := s.toks + 1 }) : wpAny (model prog w) A (setItem (.ref d) (.str keyA t) v) Q E s :=
  kda_set F N U hd (strKind_is prog w keyA t) (by rw [sizeLine_eq]; simp) fun h' o' F' N' hd' => h h' o' F' N' (by simpa [stored] using hd')
theorem del_a1 {d : Addr} {o : Obj} {g : Obj → List (Addr × Obj)} {t : Tok} {u : Value} {Q : Unit → Shared → Prop} (F : Fr h₀ L s.heap m) (N : News h₀ L s.heap news) (U : UpdF d o news g) (hd : o.IsDictOf (PySem.strKind prog w) [(keyA, u)])
    (h : ∀ h' o', Fr h₀ L h' m → News h₀ L h' (g o') → o'.IsDictOf (PySem.strKind prog w) [] → Q () { s with heap := h', toks := s.toks + 1 }) : wpAny (model prog w) A (delItem (.ref d) (.str keyA t)) Q E s :=
  kob_del F N U hd (strKind_is prog w keyA t) (by simp [valueAt]) (by rw [sizeLine_eq]; simp) fun h' o' F' N' hd' => h h' o' F' N' (by simpa [without] using hd')
theorem tup_last {value slice : PySem.Expr} {t : Addr} {a b c : Value} {u : Tok} {Q : Value → Shared → Prop} (N : News h₀ L s.heap news) (hp : (t, ({ cls := .type "tuple", data := .seq #[a, b, c] } : Obj)) ∈ news)
    (h : Q c s) (hs : subscripted slice false (.ref t) (.int (-1) u) = operate [.ref t, .int (-1) u] (getItem (.ref t) (.int (-1) u))) (hg : ∀ r, letTemporaryGo value (.ref t) r = pure ()) : wpAny (model prog w) A (subscriptTail value slice (.ref t) (.int (-1) u)) Q E s :=
  item_tuple (j := 2) ⟨_, (N _ hp).1, rfl, _, rfl⟩ (by decide) (by decide) rfl rfl h hs hg
end

theorem seg_ind {M : Model} {A : Around} {R : GenEnd} {Y : Protocol} {c : Code} {t : Sem Fin} {fs : List Frame} (P : Nat → Shared → Shared → Prop)
    (turn : ∀ k, (∀ k' s₀ s, k = k' + 1 → P k' s₀ s → Seg M A R Y (k' + 1) s₀ c t fs s) → ∀ s₀ s, P k s₀ s → Seg M A R Y (k + 1) s₀ c t fs s) : ∀ k s₀ s, P k s₀ s → Seg M A R Y (k + 1) s₀ c t fs s := by
  intro k
  induction k with
  | zero => exact turn 0 fun k' _ _ e => absurd e (by omega)
  | succ k ih => exact turn (k + 1) fun k' s₀ s e p => (by
      have e2 : k' = k := by omega
      rw [e2] at p ⊢; exact ih s₀ s p)
theorem seg_ind0 {M : Model} {A : Around} {R : GenEnd} {Y : Protocol} {c : Code} {t : Sem Fin} {fs : List Frame} {n : Nat} {s₀ s : Shared} (P : Nat → Shared → Shared → Prop)
    (turn : ∀ k, (∀ k' s₀ s, k = k' + 1 → P k' s₀ s → Seg M A R Y (k' + 1) s₀ c t fs s) → ∀ s₀ s, P k s₀ s → Seg M A R Y (k + 1) s₀ c t fs s)
    (first : (∀ k s₀ s, P k s₀ s → Seg M A R Y (k + 1) s₀ c t fs s) → Seg M A R Y n s₀ c t fs s) : Seg M A R Y n s₀ c t fs s := first (seg_ind P turn)

abbrev tupO (a b c : Value) : Obj := { cls := .type "tuple", data := .seq #[a, b, c] }
/-- what stands when the generator comes round again -/
inductive GenAt (prog : Program) (w : World) (gb : Heap) (Lg S I : Addr) (gI : Nat) (news : List (Addr × Obj)) (V : List Value) (dm vc lc x dx : Addr) (o1 o2 odx : Obj) (nn cc : Nat) : Nat → Shared → Shared → Prop
  | mk {h : Heap} {tk : Nat} {mG : PySem.Str → Option Value} {asg q vl tp pd : Addr} {v : Value} {rem us : List Value} {ds T : List (Addr × Obj)} {oa oV oA oC oD : Obj} {c cq cv cp : Nat} {tv : Tok} {s₀ : Shared} (k : Nat)
      (hk : rem.length = k)
      (eS : s₀.heap.get? S = some (lstO (refsOf ds) c)) (hV : V = rem ++ v :: us.reverse) (F : Fr gb Lg h (fun z => if z = PySem.Str.ofString "queue" then some (.ref q) else mG z))
      (N : News gb Lg h ((tp, tupO (.str keyA tv) (.ref vl) (.ref pd)) :: (q, PySem.W.listOf #[.ref tp] cq) :: (vl, PySem.W.listOf rem.toArray cv) :: (asg, oa) :: (Lg + 1 + 1 + 1 + 1, oV) :: (Lg + 1 + 1 + 1, oA) :: (Lg + 1 + 1, oC) :: (Lg + 1, oD) ::
        (dm, o1) :: (vc, o2) :: (lc, PySem.W.listOf #[] cc) :: (x, domObj 264 dx V.toArray nn) :: (dx, odx) :: (S, lstO (refsOf ds) c) :: (pd, PySem.W.listOf #[] cp) :: T))
      (da : oa.IsDictOf (PySem.strKind prog w) [(keyA, v)]) (la : (asg == sysModules) = false)
      (cV : oV.data = .cell (some (.str keyA tv))) (cA : oA.data = .cell (some (.ref asg))) (cC : oC.data = .cell (some (.ref vc))) (cD : oD.data = .cell (some (.ref dm)))
      (l1 : @LT.lt Nat _ S asg) (l2 : @LT.lt Nat _ asg q) (l3 : @LT.lt Nat _ q vl) (l4 : @LT.lt Nat _ vl tp) (l5 : @LT.lt Nat _ pd tp)
      (tS : ∀ p ∈ (pd, PySem.W.listOf #[] cp) :: T, p.1 ≠ S) (tV : ∀ p ∈ (pd, PySem.W.listOf #[] cp) :: T, p.1 ≠ Lg + 1 + 1 + 1 + 1) (ta : ∀ p ∈ (pd, PySem.W.listOf #[] cp) :: T, p.1 ≠ asg) (tq : ∀ p ∈ (pd, PySem.W.listOf #[] cp) :: T, p.1 ≠ q) (tvl : ∀ p ∈ (pd, PySem.W.listOf #[] cp) :: T, p.1 ≠ vl)
      (hG : ∀ h : Heap, (∀ b o, gb.get? b = some o → h.get? b = some o) → (∀ p ∈ T, h.get? p.1 = some p.2) → GS prog w gb Lg S I gI news us ds h) :
      GenAt prog w gb Lg S I gI news V dm vc lc x dx o1 o2 odx nn cc k s₀ { s₀ with heap := h, toks := tk }

theorem GenAt.of {prog : Program} {w : World} {gb : Heap} {Lg S I : Addr} {gI : Nat} {news : List (Addr × Obj)} {V : List Value} {dm vc lc x dx : Addr} {o1 o2 odx : Obj} {nn cc : Nat} {h : Heap} {tk : Nat} {m : PySem.Str → Option Value} {asg q vl tp pd : Addr} {v : Value} {rem us : List Value} {led ds T : List (Addr × Obj)} {oa oV oA oC oD : Obj} {c cq cv cp : Nat} {tv : Tok} {s₀ : Shared} (k : Nat)
      (hk : rem.length = k)
      (eS : s₀.heap.get? S = some (lstO (refsOf ds) c)) (hV : V = rem ++ v :: us.reverse) (F : Fr gb Lg h m) (mq : m (PySem.Str.ofString "queue") = some (.ref q))
      (N : News gb Lg h led)
      (m2 : (q, PySem.W.listOf #[.ref tp] cq) ∈ led) (m1 : (tp, tupO (.str keyA tv) (.ref vl) (.ref pd)) ∈ led) (m3 : (pd, PySem.W.listOf #[] cp) ∈ led) (m4 : (vl, PySem.W.listOf rem.toArray cv) ∈ led)
      (m6 : (Lg + 1 + 1 + 1 + 1, oV) ∈ led) (m7 : (Lg + 1 + 1 + 1, oA) ∈ led) (m8 : (Lg + 1 + 1, oC) ∈ led) (m9 : (Lg + 1, oD) ∈ led)
      (cV : oV.data = .cell (some (.str keyA tv))) (cA : oA.data = .cell (some (.ref asg))) (cC : oC.data = .cell (some (.ref vc))) (cD : oD.data = .cell (some (.ref dm)))
      (m5 : (asg, oa) ∈ led) (n1 : (dm, o1) ∈ led) (n2 : (vc, o2) ∈ led) (n3 : (lc, PySem.W.listOf #[] cc) ∈ led) (n4 : (x, domObj 264 dx V.toArray nn) ∈ led) (n5 : (dx, odx) ∈ led) (n6 : (S, lstO (refsOf ds) c) ∈ led) (mT : ∀ p ∈ T, p ∈ led)
      (da : oa.IsDictOf (PySem.strKind prog w) [(keyA, v)]) (la : (asg == sysModules) = false)
      (l1 : @LT.lt Nat _ S asg) (l2 : @LT.lt Nat _ asg q) (l3 : @LT.lt Nat _ q vl) (l4 : @LT.lt Nat _ vl tp) (l5 : @LT.lt Nat _ pd tp)
      (tS : ∀ p ∈ (pd, PySem.W.listOf #[] cp) :: T, p.1 ≠ S) (tV : ∀ p ∈ (pd, PySem.W.listOf #[] cp) :: T, p.1 ≠ Lg + 1 + 1 + 1 + 1) (ta : ∀ p ∈ (pd, PySem.W.listOf #[] cp) :: T, p.1 ≠ asg) (tq : ∀ p ∈ (pd, PySem.W.listOf #[] cp) :: T, p.1 ≠ q) (tvl : ∀ p ∈ (pd, PySem.W.listOf #[] cp) :: T, p.1 ≠ vl)
      (hG : ∀ h : Heap, (∀ b o, gb.get? b = some o → h.get? b = some o) → (∀ p ∈ T, h.get? p.1 = some p.2) → GS prog w gb Lg S I gI news us ds h) :
      GenAt prog w gb Lg S I gI news V dm vc lc x dx o1 o2 odx nn cc k s₀ { s₀ with heap := h, toks := tk } := by
  refine .mk (mG := m) (cq := cq) (cp := cp) (cv := cv) k hk eS hV ?_ (newsSub N fun p hp => ?_) da la cV cA cC cD l1 l2 l3 l4 l5 tS tV ta tq tvl hG
  · have F2 := fr_same (y := PySem.Str.ofString "queue") F
    rw [mq] at F2
    exact F2
  · rcases List.mem_cons.mp hp with rfl | hp
    · exact m1
    rcases List.mem_cons.mp hp with rfl | hp
    · exact m2
    rcases List.mem_cons.mp hp with rfl | hp
    · exact m4
    rcases List.mem_cons.mp hp with rfl | hp
    · exact m5
    rcases List.mem_cons.mp hp with rfl | hp
    · exact m6
    rcases List.mem_cons.mp hp with rfl | hp
    · exact m7
    rcases List.mem_cons.mp hp with rfl | hp
    · exact m8
    rcases List.mem_cons.mp hp with rfl | hp
    · exact m9
    rcases List.mem_cons.mp hp with rfl | hp
    · exact n1
    rcases List.mem_cons.mp hp with rfl | hp
    · exact n2
    rcases List.mem_cons.mp hp with rfl | hp
    · exact n3
    rcases List.mem_cons.mp hp with rfl | hp
    · exact n4
    rcases List.mem_cons.mp hp with rfl | hp
    · exact n5
    rcases List.mem_cons.mp hp with rfl | hp
    · exact n6
    rcases List.mem_cons.mp hp with rfl | hp
    · exact m3
    exact mT p hp

theorem GS.snoc {prog : Program} {w : World} {gb : Heap} {Lg S I a : Addr} {gI : Nat} {news ds : List (Addr × Obj)} {us : List Value} {v : Value} {o : Obj} {h : Heap} (g : GS prog w gb Lg S I gI news us ds h) (ha : h.get? a = some o) (hg : gb.get? a = none) (hS : a ≠ S) (hd : o.IsDictOf (PySem.strKind prog w) [(keyA, v)]) :
    GS prog w gb Lg S I gI news (us ++ [v]) (ds ++ [(a, o)]) h where
  base := g.base
  nw := g.nw
  gen := g.gen
  dicts := .snoc g.dicts hd
  dsAt := fun p hp => by
    rcases List.mem_append.mp hp with hp | hp
    · exact g.dsAt p hp
    · rw [List.mem_singleton.mp hp]; exact ⟨ha, hg, hS⟩

theorem updF_at {d : Addr} {o o' : Obj} : ∀ {l : List (Addr × Obj)} {g : Obj → List (Addr × Obj)}, UpdF d o l g → ∀ p ∈ g o', p = (d, o') ∨ (p ∈ l ∧ p.1 ≠ d)
  | _, _, .head h, p, hp => by
    rcases List.mem_cons.mp hp with rfl | hp
    · exact .inl rfl
    · exact .inr ⟨.tail _ hp, h p hp⟩
  | _, _, .tail h r, p, hp => by
    rcases List.mem_cons.mp hp with rfl | hp
    · exact .inr ⟨.head _, h⟩
    · rcases updF_at r p hp with h | h
      · exact .inl h
      · exact .inr ⟨.tail _ h.1, h.2⟩

/-- the one draw handed out -/
theorem gy_of {prog : Program} {w : World} {gb : Heap} {Lg S I a : Addr} {gI : Nat} {news led ds : List (Addr × Obj)} {V us rem : List Value} {v : Value} {o : Obj} {h : Heap} {tk c n : Nat} {s₀ : Shared} {m : PySem.Str → Option Value} {g : Obj → List (Addr × Obj)} {Sg : Shared → Prop} {kap : Resume → Shared → Prop}
    (F : Fr gb Lg h m) (N : News gb Lg h led) (U : UpdF S (lstO (refsOf ds) c) led g) (ha : (a, o) ∈ led) (haS : @Ne Nat a S) (eS : s₀.heap.get? S = some (lstO (refsOf ds) c))
    (hG : GS prog w gb Lg S I gI news us ds h) (hd : o.IsDictOf (PySem.strKind prog w) [(keyA, v)]) (hV : V = rem ++ v :: us.reverse)
    (hk : ∀ x s'', (match x with | .ref _ => False | _ => Sg s'') → kap (.send x) s'')
    (next : ∀ s'' c', s''.heap.get? S = some (lstO (refsOf (ds ++ [(a, o)])) c') → Fr gb Lg s''.heap m → News gb Lg s''.heap (g (lstO (refsOf (ds ++ [(a, o)])) c')) → Sg s'') :
    GY prog w gb Lg S I gI news V n s₀ (.ref a) { s₀ with heap := h, toks := tk } kap := by
  have mS := (updFMem U).1
  refine ⟨h, tk, ds, us, a, o, v, refsOf ds, c, rfl, eS, rfl, (N _ mS).1, rfl, hG.snoc (N _ ha).1 (N _ ha).2.2 haS hd, ⟨rem, hV⟩, fun s'' c' k kS => hk .none s'' (next s'' c' ?_ ?_ ?_)⟩
  · have e : refsOf (ds ++ [(a, o)]) = refsOf ds ++ [Value.ref a] := by simp [refsOf]
    rw [e]; exact kS
  · refine ⟨F.ns.at fun oL e => k Lg oL (fun z => (N _ mS).2.1 z.symm) e, fun b ob e => k b ob (fun z => ?_) (F.keep b ob e), F.above⟩
    rw [z, (N _ mS).2.2] at e; cases e
  · intro p hp
    rcases updF_at U p hp with rfl | ⟨hp, hne⟩
    · have e : refsOf (ds ++ [(a, o)]) = refsOf ds ++ [Value.ref a] := by simp [refsOf]
      refine ⟨?_, (N _ mS).2⟩
      show s''.heap.get? S = _
      rw [e]; exact kS
    · exact ⟨k _ _ hne (N p hp).1, (N p hp).2⟩
end PartD38

section PartD39
open PySem PySem.Calls PySem.W PyProof.Rows Builtin
set_option maxRecDepth 100000
set_option maxHeartbeats 4000000
theorem gen_back {prog : Program} {w : World} {h₀ gb h₁ h' : Heap} {L Lg S I : Addr} {gI c : Nat} {m : PySem.Str → Option Value} {led ds : List (Addr × Obj)} {us : List Value} {G : Prop}
    (Bk : Back h₀ gb L m) (N : News h₀ L h₁ led) (gS : gb.get? S = none) (eS : h'.get? S = some (lstO (refsOf ds) c)) (g : GS prog w gb Lg S I gI led us ds h')
    (h : Fr h₀ L h' m → News h₀ L h' ((S, lstO (refsOf ds) c) :: (led ++ ds)) → G) : G := by
  refine h (Bk.fr _ g.base) fun p hp => ?_
  rcases List.mem_cons.mp hp with rfl | hp
  · exact ⟨eS, Bk.sep _ gS⟩
  rcases List.mem_append.mp hp with hp | hp
  · exact ⟨g.nw p hp, (N p hp).2⟩
  · exact ⟨(g.dsAt p hp).1, Bk.sep _ (g.dsAt p hp).2.1⟩
theorem bare_of {gs gs' : Array GenState} {x : GenState} (hb : AllBare gs) (z1 : gs'.size = (gs.push x).size) (z2 : ∀ j, j ≠ gs.size → gs'[j]? = (gs.push x)[j]?) (z3 : gs'[gs.size]? = some .finished) : AllBare gs' := by
  intro y hy
  obtain ⟨j, hj⟩ := Array.mem_iff_getElem?.mp hy
  by_cases e : j = gs.size
  · subst e
    rw [z3] at hj
    cases hj
    rfl
  · rw [z2 j e] at hj
    rw [Array.getElem?_push] at hj
    rw [if_neg e] at hj
    exact hb y (Array.mem_iff_getElem?.mpr ⟨j, hj⟩)
end PartD39

section PartD40
open PySem PySem.Calls PySem.W PyProof.Rows Builtin
set_option maxRecDepth 100000
set_option maxHeartbeats 4000000
section
variable {M : Model} {A : Around} {E : Value → Shared → Prop} {s : Shared} {h₀ : Heap} {L : Addr} {m : PySem.Str → Option Value} {news : List (Addr × Obj)}
/-- behind a suite that binds one name and may have drawn from a generator -/
def JoinIfG (h₀ : Heap) (L : Addr) (m : PySem.Str → Option Value) (y : PySem.Str) (news : List (Addr × Obj)) (s : Shared) (f : Flow) (s' : Shared) : Prop :=
  f = .next ∧ ∃ u h' tk g', s' = { s with heap := h', toks := tk, gens := g' } ∧ AllBare g' ∧ Fr h₀ L h' (fun z => if z = y then u else m z) ∧ News h₀ L h' news
theorem join_ifG {y : PySem.Str} {c : Sem Flow} {Q : Flow → Shared → Prop} (_F : Fr h₀ L s.heap m) (_N : News h₀ L s.heap news) (hin : wpAny M A c (JoinIfG h₀ L m y news s) E s)
    (hout : ∀ u h' tk g', AllBare g' → Fr h₀ L h' (fun z => if z = y then u else m z) → News h₀ L h' news → Q .next { s with heap := h', toks := tk, gens := g' }) : wpAny M A c Q E s :=
  wpAny_mono hin (fun f s' h => by obtain ⟨rfl, u, h', tk, g', rfl, a0, a1, a2⟩ := h; exact hout u h' tk g' a0 a1 a2) fun _ _ z => z
end
theorem goodWG_boolF {c : ClaimW} {cl : PySem.Str → Option Addr} {mean : ExcName → Option Value} {args : List WData} {s₁ s' : Shared} {L : Addr} {m : PySem.Str → Option Value} {b : Bool} (F : Fr s₁.heap L s'.heap m) (hg : AllBare s'.gens) (hn : ∀ cls, c.raises args cls = false) (hp : c.post args (.bool b) args = true) (hos : s'.os = s₁.os := by rfl) :
    GoodWG c cl mean args s₁ (.ok (.ret (.bool b))) s' :=
  ⟨.inl ⟨.bool b, .bool b, [], rfl, hn, .bool b, hp, unshared_nil⟩, .of_keep F.keep, hos, hg⟩
end PartD40

section PartD41
open PySem PySem.Calls PySem.W PyProof.Rows Builtin
set_option maxRecDepth 100000
set_option maxHeartbeats 4000000
theorem DsAre.at {prog : Program} {w : World} {ds : List (Addr × Obj)} {us : List Value} (h : DsAre prog w ds us) : ∀ (i : Nat) (a : Addr) (o : Obj), ds[i]? = some (a, o) → ∃ v, us[i]? = some v ∧ o.IsDictOf (PySem.strKind prog w) [(keyA, v)] := by
  induction h with
  | nil => intro i a o e; simp at e
  | @snoc ds us a₁ o₁ v₁ hd h1 ih =>
    intro i a o e
    have hl := hd.length
    by_cases q : i < ds.length
    · rw [List.getElem?_append_left q] at e
      rw [List.getElem?_append_left (by omega)]
      exact ih i a o e
    · rw [List.getElem?_append_right (by omega)] at e
      rw [List.getElem?_append_right (by omega)]
      have q2 : i - ds.length = 0 := by
        have := (List.getElem?_eq_some_iff.mp e).1
        simp at this; omega
      rw [q2] at e
      rw [← hl, q2]
      simp at e
      obtain ⟨rfl, rfl⟩ := e
      exact ⟨v₁, rfl, h1⟩
section
variable {prog : Program} {w : World} {A : Around} {s : Shared} {h₀ : Heap} {L : Addr} {m : PySem.Str → Option Value} {env : Env}
theorem comp_ways {elt : PySem.Expr} {x : PySem.Str} {scope : Scope} {cl : List (PySem.Str × Addr)} {S : List (Addr × Obj) → Prop} {Fin : List Value → List (Addr × Obj) → Prop} {ds news : List (Addr × Obj)} {us : List Value}
    (hds : DsAre prog w ds us) (hm : ∀ p ∈ ds, p ∈ news) (hS : S news)
    (one : ∀ a o v I oI C oC D ys m₂ h tk (E' : Value → Shared → Prop) (R : Value → Shared → Prop), (a, o) ∈ news → o.IsDictOf (PySem.strKind prog w) [(keyA, v)] → LCg.NsObj oC m₂ → m₂ x = some (.ref a) → Fr h₀ L h m → News h₀ L h ((I, oI) :: (C, oC) :: (D, LCg.lst ys) :: news) → LCg.Off3 I C D news → ((@Ne Nat I C) ∧ (@Ne Nat I D) ∧ (@Ne Nat C D)) →
      (∀ tk', R v { s with heap := h, toks := tk' }) → wpAny (model prog w) A (eval elt (compEnvC scope cl C env)) R E' { s with heap := h, toks := tk })
    (fin : Fin us news) : LCg.CompRest prog w A h₀ L m env elt x scope cl s S (fun i v => (refsOf ds).toArray[i]? = some v) Fin (refsOf ds).toArray.size 0 [] news := by
  have hl := hds.length
  have key : ∀ k i, i + k = ds.length → LCg.CompRest prog w A h₀ L m env elt x scope cl s S (fun i v => (refsOf ds).toArray[i]? = some v) Fin k i (us.take i) news := by
    intro k
    induction k with
    | zero =>
      intro i hi
      have e : us.take i = us := List.take_of_length_le (by omega)
      rw [e]
      exact fin
    | succ k ih =>
      intro i hi v I oI C oC D m₂ h tk E' hP hC hx F N off ne
      have hP' : (refsOf ds)[i]? = some v := by simpa using hP
      have hi' : i < ds.length := by omega
      rcases hq : ds[i]? with _ | ⟨a, o⟩
      · rw [List.getElem?_eq_none_iff] at hq; omega
      have hv : v = .ref a := by
        have : (refsOf ds)[i]? = some (Value.ref a) := by simp [refsOf, hq]
        rw [this] at hP'; exact (Option.some.inj hP').symm
      subst hv
      obtain ⟨u, hu, hd⟩ := hds.at i a o hq
      refine one a o u I oI C oC D _ m₂ h tk E' _ (hm _ (List.mem_of_getElem? hq)) hd hC hx F N off ne fun tk' => ?_
      refine ⟨h, tk', news, rfl, F, N, off, hS, ?_⟩
      have e : us.take i ++ [u] = us.take (i + 1) := by
        rw [List.take_add_one, hu]; rfl
      show LCg.CompRest prog w A h₀ L m env elt x scope cl s S (fun i v => (refsOf ds).toArray[i]? = some v) Fin k (i + 1) (us.take i ++ [u]) news
      rw [e]
      exact ih (i + 1) (by omega)
  have := key ds.length 0 (by omega)
  have e : (refsOf ds).toArray.size = ds.length := by simp
  rw [e]
  exact this
end
theorem led5 {h₀ h : Heap} {L : Addr} {led rest : List (Addr × Obj)} {e1 e2 e3 e4 e5 : Addr × Obj} (N : News h₀ L h led) (m1 : e1 ∈ led) (m2 : e2 ∈ led) (m3 : e3 ∈ led) (m4 : e4 ∈ led) (m5 : e5 ∈ led) (hr : ∀ q ∈ rest, q ∈ led) : News h₀ L h (e1 :: e2 :: e3 :: e4 :: e5 :: rest) :=
  newsSub N fun p hp => by
    simp only [List.mem_cons] at hp
    rcases hp with h | h | h | h | h | h
    · exact h ▸ m1
    · exact h ▸ m2
    · exact h ▸ m3
    · exact h ▸ m4
    · exact h ▸ m5
    · exact hr p h
theorem ints_rev {vs : List Value} {ns : List Int} (h : IntsAre vs ns) : IntsAre vs.reverse ns.reverse := by
  induction h with
  | nil => exact .nil
  | cons n t h ih => rw [List.reverse_cons, List.reverse_cons]; exact IntsAre.append ih (.cons _ _ .nil)
end PartD41

section PartD42
open PySem PySem.Calls PySem.W PyProof.Rows Builtin
set_option maxRecDepth 100000
set_option maxHeartbeats 4000000
section
variable {s s' : Shared} {h₀ : Heap} {L : Addr} {m : PySem.Str → Option Value} {news : List (Addr × Obj)}
theorem DeedList.eight {l : Addr} {c tk : Nat} {i1 i2 i3 i4 i5 i6 i7 i8 : Int} {t1 t2 t3 t4 t5 t6 t7 t8 : Tok} {h' : Heap} (F : Fr h₀ L h' m)
    (N : News h₀ L h' ((l, W.listOf #[.int i1 t1, .int i2 t2, .int i3 t3, .int i4 t4, .int i5 t5, .int i6 t6, .int i7 t7, .int i8 t8] c) :: news)) (lt : ∀ p ∈ news, p.1 < l) (e : s' = { s with heap := h', toks := tk }) : DeedList h₀ L m news s (.ref l) s' :=
  ⟨l, [.int i1 t1, .int i2 t2, .int i3 t3, .int i4 t4, .int i5 t5, .int i6 t6, .int i7 t7, .int i8 t8], [i1, i2, i3, i4, i5, i6, i7, i8], c, h', tk, rfl, e, F, N, lt,
    .cons _ _ (.cons _ _ (.cons _ _ (.cons _ _ (.cons _ _ (.cons _ _ (.cons _ _ (.cons _ _ .nil))))))), Nat.le_of_ble_eq_true rfl⟩
end
end PartD42

section Walks7
local macro_rules | `(tactic| walk_at "via") => `(tactic| (k_here; refine' For_via ?_ (by (intro _; with_unfolding_all rfl))))
local macro_rules | `(tactic| walk_at "call builtin:list.__init__") => `(tactic| (k_here; k_dflt (refine' init_dom2 ?h ?F ?X ?N ?Y ?d ?U ?y ?e ?n ?z ?_; (case h => exact rfl); (case F | X | N => k_asm); (case U => k_updF); (case d | y | e => k_mem); (case Y => walk_at "lc"); (case n => omega); (case z => first | (rw [List.size_toArray, sizeLine_eq]; omega) | size_fits)); intro h' n' tk' F' N'; (try dsimp only at N'); (try k_sweep)))
local macro_rules | `(tactic| k_all) => `(tactic| (refine' lt_ne2 (by assumption) (by omega) (by walk_at "sub")))
local macro_rules | `(tactic| k_all) => `(tactic| (refine' lt_ne (by assumption) (by walk_at "sub")))
local macro_rules | `(tactic| k_all) => `(tactic| assumption)
local macro_rules | `(tactic| walk_at "exec For Tuple Attribute cons nil") => `(tactic| walk_at "via")
local macro_rules | `(tactic| walk_at "exec For Tuple Name cons nil") => `(tactic| walk_at "via")
local macro_rules | `(tactic| walk_at "exec For Tuple Subscript cons nil") => `(tactic| walk_at "via")
local macro_rules | `(tactic| walk_at "exec For Name Name cons nil") => `(tactic| walk_at "via")
local macro_rules | `(tactic| walk_at "exec For Name Call cons nil") => `(tactic| walk_at "via")
local macro_rules | `(tactic| walk_at "OneEnd") => `(tactic| (k_here; k_dflt (refine' ⟨_, _, _, by k_asm, by k_asm, ?rem, ?kept, ?_⟩; (case rem => (repeat (any_goals (first | (refine' Rem.head ?hx; (case hx => k_all)) | (refine' Rem.tail ?hy ?hz; (case hy => omega)))))); (case kept => (intro p hp; simp only [List.mem_cons, List.not_mem_nil, or_false] at hp; (rcases hp with hp | hp) <;> (subst hp; k_mem)))); intro h' tk' F' N'; (try k_sweep)))

section PartS8
abbrev probOf (sv cl vd : Addr) (h1 h2 h3 : Int) (t1 t2 t3 : Tok) : List DictEntry := [⟨h1, .str (PySem.Str.ofString "_solver") t1, .ref sv⟩, ⟨h2, .str (PySem.Str.ofString "_constraints") t2, .ref cl⟩, ⟨h3, .str (PySem.Str.ofString "_variables") t3, .ref vd⟩]
theorem addvar_spec {w : World} {h₀ : Heap} {env : Env} {L p dp sv cl vd d dd : Addr} {mg mb : PySem.Str → Option Value} {mean : ExcName → Option Value} {m : PySem.Str → Option Value} {s : Shared} {rest : List (Addr × Obj)} {E : Value → Shared → Prop} {Q : Value → Shared → Prop}
    {vs : List Value} {h1 h2 h3 : Int} {t t1 t2 t3 : Tok} {n k : Nat} {o od : Obj}
    (G : Gd w h₀ env L mg mb mean) (F : Fr h₀ L s.heap m) (N : News h₀ L s.heap ((p, instObj 110 dp) :: (dp, dictOf (probOf sv cl vd h1 h2 h3 t1 t2 t3) k) :: (vd, o) :: (d, domObj 264 dd vs.toArray n) :: (dd, od) :: rest))
    (a1 : @Ne Nat p vd) (a2 : @Ne Nat dp vd) (a3 : @Ne Nat d vd) (a4 : @Ne Nat dd vd) (r1 : ∀ q ∈ rest, q.1 ≠ vd)
    (ho : o.IsDictOf (PySem.strKind PySem.Challenge.rw_al0016_01.row.prog w) []) (lo : (vd == sysModules) = false) (hz : vs.length ≤ 9) (hp : vs.length ≠ 0)
    (h : ∀ x dx ha sa tp ot h' tk n' u1 u2 h4 h5 o', Fr h₀ L h' m → News h₀ L h' ((sa, W.listOf #[] 0) :: (ha, W.listOf #[] 0) :: (x, domObj 264 dx vs.toArray n') :: (dx, dictOf (desOf ha sa h4 h5 u1 u2) 2) :: (tp, ot) :: (p, instObj 110 dp) :: (dp, dictOf (probOf sv cl vd h1 h2 h3 t1 t2 t3) k) :: (vd, o') :: (d, domObj 264 dd vs.toArray n) :: (dd, od) :: rest) →
      o'.IsDictOf (PySem.strKind PySem.Challenge.rw_al0016_01.row.prog w) [(PySem.Str.ofString "a", .ref x)] → @LT.lt Nat _ dx x → @LT.lt Nat _ x ha → @LT.lt Nat _ ha sa → (∀ q ∈ ((tp, ot) :: (p, instObj 110 dp) :: (dp, dictOf (probOf sv cl vd h1 h2 h3 t1 t2 t3) k) :: (vd, o) :: (d, domObj 264 dd vs.toArray n) :: (dd, od) :: rest), q.1 < dx) → Q .none { s with heap := h', toks := tk }) :
    wpAny (model PySem.Challenge.rw_al0016_01.row.prog w) (callerA.deeper env) (call (.ref 64) [.ref p, .str (PySem.Str.ofString "a") t, .ref d]) Q E s := by
  obtain ⟨B, X, T, hf, hk⟩ := G
  revert X
  k_fill
  intro X
  w_top on
  refine wpAny_call ?_
  refine' code_def B F X N T ?kA hf hk ?k6 ?k7 ?k8 ?k9 ?kB ?_ ?c2 ?c3 ?c4 ?c5
  (case kA => exact rfl)
  (case k6 => k_is)
  (case k7 => k_is); (case k8 => k_room); (case k9 => exact BindsTo.of_eq rfl)
  (case c5 => decide); (case kB => exact locs rfl); (case c2 => exact rfl); (case c3 => exact rfl); (case c4 => exact rfl); k_whole
  intro g' L' h' FG' F' N' B' X' T'; (try dsimp only); (try k_lift B'); (try k_fold)

  (repeat' (first | (k_unfold; (try dsimp only)) | (k_end; kc_close) | (lge_end; k_here; first | ((with_reducible show ForRest ..); (k_here; k_dflt (refine' ForRest.values1 (by exact rfl) (by k_asm) (by k_asm) (by k_mem) (by k_mem) (by assumption) (by passes_own) (by intro _ _; rfl) ?_); intro I' oI' h' tk' F' N' l1; (try k_lt l1); (try k_sweep))) | ((with_reducible show ForRest ..); (k_here; k_dflt (refine' ForRest.keys1 (by exact rfl) (by k_asm) (by k_asm) (by k_mem) (by assumption) (by assumption) (by passes_own) (by intro _ _; rfl) ?_); intro t' I' oI' h' tk' F' N' l1; (try k_lt l1); (try k_sweep))) | ((with_reducible show ForRest ..); (k_here; k_dflt (refine' ForRest.empty (by exact rfl) (by k_asm) (by k_asm) (by k_mem) (by passes_own) ?_); intro h' F' N'; (try k_sweep)))) | (k_here; first | ((with_reducible show wpAny _ _ (truthy (Value.ref _)) _ _ _); first | (k_here; k_dflt (refine' truthy_domT (by k_asm) (by k_asm) (by k_asm) (by walk_at "lc") (by k_mem) (by k_mem) (by assumption) (by assumption) ?_)) | (k_here; k_dflt (refine' truthy_dictT (by k_asm) (by k_mem) (by assumption) (by assumption) (by exact Nat.le_of_ble_eq_true rfl) ?_))) | ((with_reducible show wpAny _ _ (call (Value.builtin "dict.values") _ _) _ _ _); first | (k_here; k_dflt (refine' dvaluesK (by k_asm) (by k_asm) (by k_mem) (by assumption) (by assumption) ?_); intro v' h' F' N' l1; (try k_lt l1); (try k_sweep))) | ((with_reducible show wpAny _ _ (getMethod (Value.ref _) _ _) _ _ _); first | (k_here; (with_reducible show wpAny _ _ (getMethod (Value.ref _) (PySem.Str.ofString "values") _) _ _ _); k_dflt (refine' kob_method (knd := PySem.strKind _ _) PySem.F.slot_dict_values PySem.F.type_dict_values (by k_asm) (by k_mem) (by assumption) ?_)) | (k_here; (with_reducible show wpAny _ _ (getMethod (Value.ref _) (PySem.Str.ofString "copy") _) _ _ _); k_dflt (refine' kob_method (knd := PySem.strKind _ _) PySem.F.slot_dict_copy PySem.F.type_dict_copy (by k_asm) (by k_mem) (by assumption) ?_))) | ((with_reducible show wpAny _ _ (call (Value.builtin "dict.copy") _ _) _ _ _); first | (k_here; k_dflt (refine' dcopyK (by k_asm) (by k_asm) (by k_mem) (by assumption) (by assumption) (by first | exact Top.nolimit (by k_asm) | exact TopRead.nolimit (by k_asm)) (by exact Nat.le_of_ble_eq_true rfl) ?_); intro d' h' o' F' N' hd' l1 lo'; (try k_lt l1); (try k_sweep))) | ((with_reducible show wpAny _ _ (call (Value.builtin "isinstance") _ _) _ _ _); first | (k_here; (with_reducible show wpAny _ _ (call (Value.builtin _) [Value.ref _, Value.ref _]) _ _ _); k_dflt (refine' isi_ltK (by k_asm) (by k_asm) (by k_asm) (by walk_at "lc") (by k_mem) (by k_mem) (by k_mem) ?_); intro tk')) | ((with_reducible show wpAny _ _ (eval (PySem.Expr.Dict ..) _) _ _ _); first | (k_here; k_dflt (refine' newDict_K (by k_asm) (by k_asm) (by first | exact Top.nolimit (by k_asm) | exact TopRead.nolimit (by k_asm)) ?_; k_whole); intro d' h' o' F' N' l1 lo' hs' fs' hi' fi'; clear fs' hi' fi'; (try k_lt l1); (try k_sweep)))) | walk1 | (dsimp only; walk1) | (leave1; walk_say "STEP leave1"; (try dsimp only)) | fail "no step"))
  all_goals (try k_data)
  with_reducible rename News _ _ _ _ => kN
  exact h _ _ _ _ _ _ _ _ _ _ _ _ _ _ (by assumption) kN (by assumption) (by omega) (by omega) (by omega) (by first | assumption | (refine sub_lt ?a ?b; (case a => assumption); (case b => (intro p hp; repeat (first | exact hp | refine' List.Mem.tail _ ?_)))))

end PartS8

section PartS10
local macro_rules | `(tactic| walk_at "eval Dict nil nil") => `(tactic| (k_here; k_dflt (refine' newDict_K (by k_asm) (by k_asm) (by first | exact Top.nolimit (by k_asm) | exact TopRead.nolimit (by k_asm)) ?_; k_whole); intro d' h' o' F' N' l1 lo' hs' fs' hi' fi'; clear fs' hi' fi'; (try k_lt l1); (try k_sweep)))
local macro_rules | `(tactic| walk_at "getMethod ref") => `(tactic| (k_here; (with_reducible show wpAny _ _ (getMethod (Value.ref _) (PySem.Str.ofString "copy") _) _ _ _); k_dflt (refine' kob_method (knd := PySem.strKind _ _) PySem.F.slot_dict_copy PySem.F.type_dict_copy (by k_asm) (by k_mem) (by assumption) ?_)))
local macro_rules | `(tactic| walk_at "call builtin:dict.copy") => `(tactic| (k_here; k_dflt (refine' dcopyK (by k_asm) (by k_asm) (by k_mem) (by assumption) (by assumption) (by first | exact Top.nolimit (by k_asm) | exact TopRead.nolimit (by k_asm)) (by exact Nat.le_of_ble_eq_true rfl) ?_); intro d' h' o' F' N' hd' l1 lo'; (try k_lt l1); (try k_sweep)))
local macro_rules | `(tactic| walk_at "ForRest") => `(tactic| (k_here; k_dflt (refine' ForRest.empty (by exact rfl) (by k_asm) (by k_asm) (by k_mem) (by passes_own) ?_); intro h' F' N'; (try k_sweep)))
local macro_rules | `(tactic| walk_at "k_clearNe") => `(tactic| repeat (first | ((with_reducible rename ((_ ≠ _ ∧ _ ≠ _ ∧ _ ≠ _) ∧ _) => kne); clear kne) | ((with_reducible rename (LCg.Off1 _ _) => kne); clear kne) | ((with_reducible rename (LCg.Off3 _ _ _ _) => kne); clear kne) | ((with_reducible rename (_ ≠ _) => kne); clear kne) | ((with_reducible rename (_ ≠ _ ∧ _ ≠ _) => kne); clear kne) | ((with_reducible rename (_ ≠ _ ∧ _ ≠ _ ∧ _ ≠ _) => kne); clear kne) | ((with_reducible rename (_ ≠ _ ∧ _ ≠ _ ∧ _ ≠ _ ∧ _ ≠ _) => kne); clear kne)))
local macro_rules | `(tactic| walk_at "k_lt2") => `(tactic| omega)
local macro_rules | `(tactic| k_ne) => `(tactic| first | (refine' offGet ?h ?m; (case h => with_reducible assumption); (case m => k_mem)) | (refine' offGetS ?h ?m; (case h => with_reducible assumption); (case m => k_mem)) | (refine neN ?_; (try dsimp only); omega))
local macro_rules | `(tactic| k_all) => `(tactic| (refine' sub_ne (by assumption) (by walk_at "sub")))
local macro_rules | `(tactic| k_all) => `(tactic| (refine' RestLt.ne (by assumption) (by omega)))
local macro_rules | `(tactic| walk_at "SegOne") => `(tactic| (k_here; k_dflt (refine' ⟨_, _, _, by k_asm, by k_asm, ?rem, ?kept, ?_⟩; (case rem => (repeat (any_goals (first | (refine' Rem.head ?hx; (case hx => k_all)) | (refine' Rem.tail ?hy ?hz; (case hy => k_ne)))))); (case kept => (intro p hp; simp only [List.mem_cons, List.not_mem_nil, or_false] at hp; (rcases hp with hp | hp) <;> (subst hp; k_mem)))); intro h' tk' F' N'; (try k_sweep)))
local macro_rules | `(tactic| walk_at "exec For Tuple Subscript cons cons") => `(tactic| walk_at "via")
theorem gen_seg {w : World} {gb : Heap} {Lg S I dm vc lc cl x dx sv dv : Addr} {gI dep un : Nat} {fr : Option (List Env)} {gu : Option (List Code)} {mg mb : PySem.Str → Option Value} {mean : ExcName → Option Value} {news rest cells : List (Addr × Obj)} {V : List Value} {s₀ : Shared}
    {name qual : PySem.Str} {params : Arguments} {body : List Stmt} {scope : Scope} {dV kV doc pm cdv ct oc : Value} {an od : Option Addr} {osl : Array (Option Value)} {o1 o2 odx oI : Obj} {cc nn c : Nat} {h6 : Int} {t6 : Tok}
    (X : (hd.heap_1 w.params).In gb) (T : Top hd.view_39 loos mean mg mb gb)
    (ho : (hd.heap_1 w.params).lookup 169 = some ⟨oc, od, .func (fnOf name qual params body scope dV kV doc pm an cdv ct), osl⟩)
    (Y : CellsAre (bindC (envOfC qual scope Lg 169 cdv).kindOf [(PySem.Str.ofString "self", .ref sv), (PySem.Str.ofString "domains", .ref dm), (PySem.Str.ofString "constraints", .ref cl), (PySem.Str.ofString "vconstraints", .ref vc)] fun _ => none) (cellsFrom (Lg + 1) scope.names []) cells)
    (F : Fr gb Lg s₀.heap (bindL (envOfC qual scope Lg 169 cdv).kindOf [(PySem.Str.ofString "self", .ref sv), (PySem.Str.ofString "domains", .ref dm), (PySem.Str.ofString "constraints", .ref cl), (PySem.Str.ofString "vconstraints", .ref vc)] fun _ => none))
    (N : News gb Lg s₀.heap (cells ++ ((dm, o1) :: (vc, o2) :: (lc, W.listOf #[] cc) :: (x, domObj 264 dx V.toArray nn) :: (dx, odx) :: (sv, instObj 186 dv) :: (dv, dictOf (slvOf h6 t6) 1) :: (S, lstO [] c) :: (I, oI) :: rest)))
    (d1 : o1.IsDictOf (PySem.strKind PySem.Challenge.rw_al0016_01.row.prog w) [(keyA, .ref x)]) (d2 : o2.IsDictOf (PySem.strKind PySem.Challenge.rw_al0016_01.row.prog w) [(keyA, .ref lc)]) (lo1 : (dm == sysModules) = false) (lo2 : (vc == sysModules) = false)
    (rl : RestLt Lg rest) (k1 : @LT.lt Nat _ dm Lg) (k2 : @LT.lt Nat _ vc Lg) (k3 : @LT.lt Nat _ lc Lg) (k4 : @LT.lt Nat _ x Lg) (k5 : @LT.lt Nat _ dx Lg) (k6 : @LT.lt Nat _ sv Lg) (k7 : @LT.lt Nat _ dv Lg) (k8 : @LT.lt Nat _ (Lg + 4) S) (k9 : @LT.lt Nat _ (Lg + 4) I) (k10 : @LT.lt Nat _ I S) (hn : ∀ p ∈ news, p ∈ rest) (hIg : ∀ h : Heap, h.get? I = some oI → h.IsGen I gI) (hV : V.length ≤ 9) (hV0 : V.length ≠ 0) :
    Seg (model PySem.Challenge.rw_al0016_01.row.prog w) ⟨none, dep, fr, gu, un⟩ (GR PySem.Challenge.rw_al0016_01.row.prog w gb Lg S I gI news V) (GY PySem.Challenge.rw_al0016_01.row.prog w gb Lg S I gI news V) V.length s₀ (.func body (envOfC qual scope Lg 169 cdv))
      ((model PySem.Challenge.rw_al0016_01.row.prog w).den (.func body (envOfC qual scope Lg 169 cdv))) [] s₀ := by
  revert X
  k_fill
  intro X
  have e2 := Option.some.inj (ho.symm.trans (by k_is))
  cases e2
  k_cells Y
  simp only [List.cons_append, List.nil_append] at N
  have eS : s₀.heap.get? S = some (lstO (refsOf []) c) := (N (S, lstO [] c) (by k_mem)).1
  refine seg_func ?_
  refine seg_stmt ?_
  (repeat' (first | (k_unfold; (try dsimp only)) | (k_end; kc_close) | (lge_end; k_here; first | ((with_reducible show OnceEnd ..); (unfold OnceEnd; dsimp only)) | ((with_reducible show SegSrc ..); (k_here; k_dflt (refine' ⟨_, _, _, _, _, rfl, by k_asm, by k_asm, by k_mem, ?_⟩); intro p' I' oI' h' tk' F' N' l1; (try k_lt l1); (try k_sweep))) | ((with_reducible show LCg.FinA ..); ((unfold LCg.FinA); intro D' h' tk' F' N' o1'; (have hOffNe := off1_ne o1'); clear o1'; (walk_at "k_clearNe"); (try simp only [List.nil_append, List.cons_append] at N'); (try dsimp only); (try k_sweep))) | ((with_reducible show LCg.CompEnd ..); (k_here; k_dflt (refine' compEnd_at1 (by k_asm) (by with_reducible assumption) (by (simp only [LCg.Off3, and_true]; assumption)) (by omega) (by omega) (by omega) (by k_mem) ?_))) | ((with_reducible show LCg.CompEnd ..); (k_here; k_dflt (refine' compEnd_at (by k_asm) (by with_reducible assumption) (by (simp only [LCg.Off3, and_true]; assumption)) (by k_mem) ?_))) | ((with_reducible show DSrcT ..); (k_here; k_dflt (refine' DSrcT.of (by exact rfl) (by k_asm) (by k_asm) (by k_mem) (by with_reducible assumption) (by with_reducible assumption) ?_); intro g')) | ((with_reducible show DSrc ..); (k_here; k_dflt (refine' DSrc.of (by exact rfl) (by k_asm) (by k_asm) (by k_mem) (by with_reducible assumption) (by with_reducible assumption) ?_); intro g'))) | (k_here; first | ((with_reducible show wpAny _ _ (delItem (Value.ref _) (Value.str _ _)) _ _ _); first | (k_here; k_dflt (refine' del_a1 (by k_asm) (by k_asm) (by k_updF) (by with_reducible assumption) ?_); intro h' o' F' N' hd'; (try dsimp only at N'))) | ((with_reducible show wpAny _ _ (setItem (Value.ref _) (Value.str _ _) _) _ _ _); first | (k_here; k_dflt (refine' set_a1 (by k_asm) (by k_asm) (by k_updF) (by with_reducible assumption) ?_); intro h' o' F' N' hd'; (try dsimp only at N')) | (k_here; k_dflt (refine' set_a0 (by k_asm) (by k_asm) (by k_updF) (by with_reducible assumption) ?_); intro h' o' F' N' hd'; (try dsimp only at N'))) | ((with_reducible show wpAny _ _ (truthy (Value.ref _)) _ _ _); first | (k_here; k_dflt (refine' truthy_nil (by k_asm) (by k_mem) ?_)) | (k_here; k_dflt (refine' truthy_one (by k_asm) (by k_mem) ?_)) | (k_here; k_dflt (refine' truthy_some (by k_asm) (by k_mem) (by omega) ?_))) | ((with_reducible show wpAny _ _ (call (Value.builtin "list.pop") _ _) _ _ _); first | (k_here; k_dflt (refine' pop_one (by k_asm) (by k_asm) (by k_upd) ?_); intro h' F' N'; (try k_sweep)) | (k_here; k_dflt (refine' pop_snoc (by k_asm) (by k_asm) (by k_upd) (by (rw [sizeLine_eq]; omega)) ?_); intro h' F' N'; (try k_sweep))) | ((with_reducible show wpAny _ _ (subscriptTail _ _ (Value.ref _) (Value.int _ _)) _ _ _); first | (k_here; k_dflt (refine' tup_last (by k_asm) (by k_mem) ?_ (by with_unfolding_all rfl) (by (intro _; with_unfolding_all rfl))))) | ((with_reducible show wpAny _ _ (subscriptTail _ _ (Value.ref _) (Value.str _ _)) _ _ _); first | (k_here; k_dflt (refine' dict_one (by k_asm) (by k_mem) (by with_reducible assumption) ?_ (by with_unfolding_all rfl)))) | ((with_reducible show wpAny _ _ (call (Value.builtin "list.sort") _ _) _ _ _); first | (k_here; k_dflt (refine' sort_one (by k_asm) (by k_asm) (by k_updF) ?_); intro h' c' F' N'; (try dsimp only at N'); (try k_sweep))) | ((with_reducible show wpAny _ _ (exec (PySem.Stmt.Assign ..) _) _ _ _); first | (k_here; (with_reducible show wpAny _ _ (exec (PySem.Stmt.Assign _ (PySem.Expr.ListComp _ [⟨_, _, [], _⟩] _ _) _) _) _ _ _); k_dflt (refine' Assign_ListComp_dict (by k_asm) (by exact rfl) (by with_unfolding_all rfl) (by exact rfl) (by decide) (by exact rfl) (by decide) (by exact rfl) (by exact rfl) (by exact rfl) ?_ (by (intro _; with_unfolding_all rfl)))) | (k_here; (with_reducible show wpAny _ _ (exec (PySem.Stmt.Assign _ (PySem.Expr.ListComp _ [⟨_, _, [_], _⟩] _ _) _) _) _ _ _); k_dflt (refine' Assign_ListComp_dictT (by k_asm) (by exact rfl) (by with_unfolding_all rfl) (by exact rfl) (by decide) (by exact rfl) (by decide) (by exact rfl) (by exact rfl) (by exact rfl) ?_ (by (intro _; with_unfolding_all rfl))))) | ((with_reducible show wpAny _ _ (subscriptTail _ _ (Value.ref _) (Value.ref _)) _ _ _); first | (k_here; k_dflt (refine' slice_domK (by k_asm) (by k_asm) (by k_asm) (by walk_at "lc") (by k_mem) (by k_mem) (by k_is) (by k_is) (by omega) (by (intro i; exact ⟨_, by with_unfolding_all rfl⟩)) ?_); intro D' h' F' N' l1; (try k_lt l1); (try k_sweep))) | ((with_reducible show wpAny _ _ (exec (PySem.Stmt.While ..) _) _ _ _); first | (k_here; refine' While_once (by passes_own) ?_))) | walk1 | (dsimp only; walk1) | (leave1; walk_say "STEP leave1"; (try dsimp only)) | fail "no step"))
  try dsimp only
  refine seg_stmt ?_
  (repeat' (first | (k_unfold; (try dsimp only)) | (k_end; kc_close) | (lge_end; k_here; first | ((with_reducible show OnceEnd ..); (unfold OnceEnd; dsimp only)) | ((with_reducible show SegSrc ..); (k_here; k_dflt (refine' ⟨_, _, _, _, _, rfl, by k_asm, by k_asm, by k_mem, ?_⟩); intro p' I' oI' h' tk' F' N' l1; (try k_lt l1); (try k_sweep))) | ((with_reducible show LCg.FinA ..); ((unfold LCg.FinA); intro D' h' tk' F' N' o1'; (have hOffNe := off1_ne o1'); clear o1'; (walk_at "k_clearNe"); (try simp only [List.nil_append, List.cons_append] at N'); (try dsimp only); (try k_sweep))) | ((with_reducible show LCg.CompEnd ..); (k_here; k_dflt (refine' compEnd_at1 (by k_asm) (by with_reducible assumption) (by (simp only [LCg.Off3, and_true]; assumption)) (by omega) (by omega) (by omega) (by k_mem) ?_))) | ((with_reducible show LCg.CompEnd ..); (k_here; k_dflt (refine' compEnd_at (by k_asm) (by with_reducible assumption) (by (simp only [LCg.Off3, and_true]; assumption)) (by k_mem) ?_))) | ((with_reducible show DSrcT ..); (k_here; k_dflt (refine' DSrcT.of (by exact rfl) (by k_asm) (by k_asm) (by k_mem) (by with_reducible assumption) (by with_reducible assumption) ?_); intro g')) | ((with_reducible show DSrc ..); (k_here; k_dflt (refine' DSrc.of (by exact rfl) (by k_asm) (by k_asm) (by k_mem) (by with_reducible assumption) (by with_reducible assumption) ?_); intro g'))) | (k_here; first | ((with_reducible show wpAny _ _ (delItem (Value.ref _) (Value.str _ _)) _ _ _); first | (k_here; k_dflt (refine' del_a1 (by k_asm) (by k_asm) (by k_updF) (by with_reducible assumption) ?_); intro h' o' F' N' hd'; (try dsimp only at N'))) | ((with_reducible show wpAny _ _ (setItem (Value.ref _) (Value.str _ _) _) _ _ _); first | (k_here; k_dflt (refine' set_a1 (by k_asm) (by k_asm) (by k_updF) (by with_reducible assumption) ?_); intro h' o' F' N' hd'; (try dsimp only at N')) | (k_here; k_dflt (refine' set_a0 (by k_asm) (by k_asm) (by k_updF) (by with_reducible assumption) ?_); intro h' o' F' N' hd'; (try dsimp only at N'))) | ((with_reducible show wpAny _ _ (truthy (Value.ref _)) _ _ _); first | (k_here; k_dflt (refine' truthy_nil (by k_asm) (by k_mem) ?_)) | (k_here; k_dflt (refine' truthy_one (by k_asm) (by k_mem) ?_)) | (k_here; k_dflt (refine' truthy_some (by k_asm) (by k_mem) (by omega) ?_))) | ((with_reducible show wpAny _ _ (call (Value.builtin "list.pop") _ _) _ _ _); first | (k_here; k_dflt (refine' pop_one (by k_asm) (by k_asm) (by k_upd) ?_); intro h' F' N'; (try k_sweep)) | (k_here; k_dflt (refine' pop_snoc (by k_asm) (by k_asm) (by k_upd) (by (rw [sizeLine_eq]; omega)) ?_); intro h' F' N'; (try k_sweep))) | ((with_reducible show wpAny _ _ (subscriptTail _ _ (Value.ref _) (Value.int _ _)) _ _ _); first | (k_here; k_dflt (refine' tup_last (by k_asm) (by k_mem) ?_ (by with_unfolding_all rfl) (by (intro _; with_unfolding_all rfl))))) | ((with_reducible show wpAny _ _ (subscriptTail _ _ (Value.ref _) (Value.str _ _)) _ _ _); first | (k_here; k_dflt (refine' dict_one (by k_asm) (by k_mem) (by with_reducible assumption) ?_ (by with_unfolding_all rfl)))) | ((with_reducible show wpAny _ _ (call (Value.builtin "list.sort") _ _) _ _ _); first | (k_here; k_dflt (refine' sort_one (by k_asm) (by k_asm) (by k_updF) ?_); intro h' c' F' N'; (try dsimp only at N'); (try k_sweep))) | ((with_reducible show wpAny _ _ (exec (PySem.Stmt.Assign ..) _) _ _ _); first | (k_here; (with_reducible show wpAny _ _ (exec (PySem.Stmt.Assign _ (PySem.Expr.ListComp _ [⟨_, _, [], _⟩] _ _) _) _) _ _ _); k_dflt (refine' Assign_ListComp_dict (by k_asm) (by exact rfl) (by with_unfolding_all rfl) (by exact rfl) (by decide) (by exact rfl) (by decide) (by exact rfl) (by exact rfl) (by exact rfl) ?_ (by (intro _; with_unfolding_all rfl)))) | (k_here; (with_reducible show wpAny _ _ (exec (PySem.Stmt.Assign _ (PySem.Expr.ListComp _ [⟨_, _, [_], _⟩] _ _) _) _) _ _ _); k_dflt (refine' Assign_ListComp_dictT (by k_asm) (by exact rfl) (by with_unfolding_all rfl) (by exact rfl) (by decide) (by exact rfl) (by decide) (by exact rfl) (by exact rfl) (by exact rfl) ?_ (by (intro _; with_unfolding_all rfl))))) | ((with_reducible show wpAny _ _ (subscriptTail _ _ (Value.ref _) (Value.ref _)) _ _ _); first | (k_here; k_dflt (refine' slice_domK (by k_asm) (by k_asm) (by k_asm) (by walk_at "lc") (by k_mem) (by k_mem) (by k_is) (by k_is) (by omega) (by (intro i; exact ⟨_, by with_unfolding_all rfl⟩)) ?_); intro D' h' F' N' l1; (try k_lt l1); (try k_sweep))) | ((with_reducible show wpAny _ _ (exec (PySem.Stmt.While ..) _) _ _ _); first | (k_here; refine' While_once (by passes_own) ?_))) | walk1 | (dsimp only; walk1) | (leave1; walk_say "STEP leave1"; (try dsimp only)) | fail "no step"))
  try dsimp only
  refine seg_stmt ?_
  (repeat' (first | (k_unfold; (try dsimp only)) | (k_end; kc_close) | (lge_end; k_here; first | ((with_reducible show OnceEnd ..); (unfold OnceEnd; dsimp only)) | ((with_reducible show SegSrc ..); (k_here; k_dflt (refine' ⟨_, _, _, _, _, rfl, by k_asm, by k_asm, by k_mem, ?_⟩); intro p' I' oI' h' tk' F' N' l1; (try k_lt l1); (try k_sweep))) | ((with_reducible show LCg.FinA ..); ((unfold LCg.FinA); intro D' h' tk' F' N' o1'; (have hOffNe := off1_ne o1'); clear o1'; (walk_at "k_clearNe"); (try simp only [List.nil_append, List.cons_append] at N'); (try dsimp only); (try k_sweep))) | ((with_reducible show LCg.CompEnd ..); (k_here; k_dflt (refine' compEnd_at1 (by k_asm) (by with_reducible assumption) (by (simp only [LCg.Off3, and_true]; assumption)) (by omega) (by omega) (by omega) (by k_mem) ?_))) | ((with_reducible show LCg.CompEnd ..); (k_here; k_dflt (refine' compEnd_at (by k_asm) (by with_reducible assumption) (by (simp only [LCg.Off3, and_true]; assumption)) (by k_mem) ?_))) | ((with_reducible show DSrcT ..); (k_here; k_dflt (refine' DSrcT.of (by exact rfl) (by k_asm) (by k_asm) (by k_mem) (by with_reducible assumption) (by with_reducible assumption) ?_); intro g')) | ((with_reducible show DSrc ..); (k_here; k_dflt (refine' DSrc.of (by exact rfl) (by k_asm) (by k_asm) (by k_mem) (by with_reducible assumption) (by with_reducible assumption) ?_); intro g'))) | (k_here; first | ((with_reducible show wpAny _ _ (delItem (Value.ref _) (Value.str _ _)) _ _ _); first | (k_here; k_dflt (refine' del_a1 (by k_asm) (by k_asm) (by k_updF) (by with_reducible assumption) ?_); intro h' o' F' N' hd'; (try dsimp only at N'))) | ((with_reducible show wpAny _ _ (setItem (Value.ref _) (Value.str _ _) _) _ _ _); first | (k_here; k_dflt (refine' set_a1 (by k_asm) (by k_asm) (by k_updF) (by with_reducible assumption) ?_); intro h' o' F' N' hd'; (try dsimp only at N')) | (k_here; k_dflt (refine' set_a0 (by k_asm) (by k_asm) (by k_updF) (by with_reducible assumption) ?_); intro h' o' F' N' hd'; (try dsimp only at N'))) | ((with_reducible show wpAny _ _ (truthy (Value.ref _)) _ _ _); first | (k_here; k_dflt (refine' truthy_nil (by k_asm) (by k_mem) ?_)) | (k_here; k_dflt (refine' truthy_one (by k_asm) (by k_mem) ?_)) | (k_here; k_dflt (refine' truthy_some (by k_asm) (by k_mem) (by omega) ?_))) | ((with_reducible show wpAny _ _ (call (Value.builtin "list.pop") _ _) _ _ _); first | (k_here; k_dflt (refine' pop_one (by k_asm) (by k_asm) (by k_upd) ?_); intro h' F' N'; (try k_sweep)) | (k_here; k_dflt (refine' pop_snoc (by k_asm) (by k_asm) (by k_upd) (by (rw [sizeLine_eq]; omega)) ?_); intro h' F' N'; (try k_sweep))) | ((with_reducible show wpAny _ _ (subscriptTail _ _ (Value.ref _) (Value.int _ _)) _ _ _); first | (k_here; k_dflt (refine' tup_last (by k_asm) (by k_mem) ?_ (by with_unfolding_all rfl) (by (intro _; with_unfolding_all rfl))))) | ((with_reducible show wpAny _ _ (subscriptTail _ _ (Value.ref _) (Value.str _ _)) _ _ _); first | (k_here; k_dflt (refine' dict_one (by k_asm) (by k_mem) (by with_reducible assumption) ?_ (by with_unfolding_all rfl)))) | ((with_reducible show wpAny _ _ (call (Value.builtin "list.sort") _ _) _ _ _); first | (k_here; k_dflt (refine' sort_one (by k_asm) (by k_asm) (by k_updF) ?_); intro h' c' F' N'; (try dsimp only at N'); (try k_sweep))) | ((with_reducible show wpAny _ _ (exec (PySem.Stmt.Assign ..) _) _ _ _); first | (k_here; (with_reducible show wpAny _ _ (exec (PySem.Stmt.Assign _ (PySem.Expr.ListComp _ [⟨_, _, [], _⟩] _ _) _) _) _ _ _); k_dflt (refine' Assign_ListComp_dict (by k_asm) (by exact rfl) (by with_unfolding_all rfl) (by exact rfl) (by decide) (by exact rfl) (by decide) (by exact rfl) (by exact rfl) (by exact rfl) ?_ (by (intro _; with_unfolding_all rfl)))) | (k_here; (with_reducible show wpAny _ _ (exec (PySem.Stmt.Assign _ (PySem.Expr.ListComp _ [⟨_, _, [_], _⟩] _ _) _) _) _ _ _); k_dflt (refine' Assign_ListComp_dictT (by k_asm) (by exact rfl) (by with_unfolding_all rfl) (by exact rfl) (by decide) (by exact rfl) (by decide) (by exact rfl) (by exact rfl) (by exact rfl) ?_ (by (intro _; with_unfolding_all rfl))))) | ((with_reducible show wpAny _ _ (subscriptTail _ _ (Value.ref _) (Value.ref _)) _ _ _); first | (k_here; k_dflt (refine' slice_domK (by k_asm) (by k_asm) (by k_asm) (by walk_at "lc") (by k_mem) (by k_mem) (by k_is) (by k_is) (by omega) (by (intro i; exact ⟨_, by with_unfolding_all rfl⟩)) ?_); intro D' h' F' N' l1; (try k_lt l1); (try k_sweep))) | ((with_reducible show wpAny _ _ (exec (PySem.Stmt.While ..) _) _ _ _); first | (k_here; refine' While_once (by passes_own) ?_))) | walk1 | (dsimp only; walk1) | (leave1; walk_say "STEP leave1"; (try dsimp only)) | fail "no step"))
  try dsimp only
  refine seg_execs_cons (seg_While fun p => ?_)
  refine seg_ind0 (GenAt PySem.Challenge.rw_al0016_01.row.prog w gb Lg S I gI news V dm vc lc x dx o1 o2 odx nn cc) ?turn ?first
  case turn =>
    intro k IH s₁ s₂ P
    cases P with
    | @mk h5 tk5 mG5 asg q vl tp pd v rem us ds T oa oV oA oC oD c5 cq cv cp tv s₁ k hk eS hV2 F N da la cV cA cC cD l1 l2 l3 l4 l5 tS tV ta tq tvl hG =>
    refine seg_whileLoop ?_
    (repeat' (first | (k_unfold; (try dsimp only)) | (k_end; kc_close) | (lge_end; k_here; first | ((with_reducible show OnceEnd ..); (unfold OnceEnd; dsimp only)) | ((with_reducible show SegSrc ..); (k_here; k_dflt (refine' ⟨_, _, _, _, _, rfl, by k_asm, by k_asm, by k_mem, ?_⟩); intro p' I' oI' h' tk' F' N' l1; (try k_lt l1); (try k_sweep))) | ((with_reducible show LCg.FinA ..); ((unfold LCg.FinA); intro D' h' tk' F' N' o1'; (have hOffNe := off1_ne o1'); clear o1'; (walk_at "k_clearNe"); (try simp only [List.nil_append, List.cons_append] at N'); (try dsimp only); (try k_sweep))) | ((with_reducible show LCg.CompEnd ..); (k_here; k_dflt (refine' compEnd_at1 (by k_asm) (by with_reducible assumption) (by (simp only [LCg.Off3, and_true]; assumption)) (by omega) (by omega) (by omega) (by k_mem) ?_))) | ((with_reducible show LCg.CompEnd ..); (k_here; k_dflt (refine' compEnd_at (by k_asm) (by with_reducible assumption) (by (simp only [LCg.Off3, and_true]; assumption)) (by k_mem) ?_))) | ((with_reducible show DSrcT ..); (k_here; k_dflt (refine' DSrcT.of (by exact rfl) (by k_asm) (by k_asm) (by k_mem) (by with_reducible assumption) (by with_reducible assumption) ?_); intro g')) | ((with_reducible show DSrc ..); (k_here; k_dflt (refine' DSrc.of (by exact rfl) (by k_asm) (by k_asm) (by k_mem) (by with_reducible assumption) (by with_reducible assumption) ?_); intro g'))) | (k_here; first | ((with_reducible show wpAny _ _ (delItem (Value.ref _) (Value.str _ _)) _ _ _); first | (k_here; k_dflt (refine' del_a1 (by k_asm) (by k_asm) (by k_updF) (by with_reducible assumption) ?_); intro h' o' F' N' hd'; (try dsimp only at N'))) | ((with_reducible show wpAny _ _ (setItem (Value.ref _) (Value.str _ _) _) _ _ _); first | (k_here; k_dflt (refine' set_a1 (by k_asm) (by k_asm) (by k_updF) (by with_reducible assumption) ?_); intro h' o' F' N' hd'; (try dsimp only at N')) | (k_here; k_dflt (refine' set_a0 (by k_asm) (by k_asm) (by k_updF) (by with_reducible assumption) ?_); intro h' o' F' N' hd'; (try dsimp only at N'))) | ((with_reducible show wpAny _ _ (truthy (Value.ref _)) _ _ _); first | (k_here; k_dflt (refine' truthy_nil (by k_asm) (by k_mem) ?_)) | (k_here; k_dflt (refine' truthy_one (by k_asm) (by k_mem) ?_)) | (k_here; k_dflt (refine' truthy_some (by k_asm) (by k_mem) (by omega) ?_))) | ((with_reducible show wpAny _ _ (call (Value.builtin "list.pop") _ _) _ _ _); first | (k_here; k_dflt (refine' pop_one (by k_asm) (by k_asm) (by k_upd) ?_); intro h' F' N'; (try k_sweep)) | (k_here; k_dflt (refine' pop_snoc (by k_asm) (by k_asm) (by k_upd) (by (rw [sizeLine_eq]; omega)) ?_); intro h' F' N'; (try k_sweep))) | ((with_reducible show wpAny _ _ (subscriptTail _ _ (Value.ref _) (Value.int _ _)) _ _ _); first | (k_here; k_dflt (refine' tup_last (by k_asm) (by k_mem) ?_ (by with_unfolding_all rfl) (by (intro _; with_unfolding_all rfl))))) | ((with_reducible show wpAny _ _ (subscriptTail _ _ (Value.ref _) (Value.str _ _)) _ _ _); first | (k_here; k_dflt (refine' dict_one (by k_asm) (by k_mem) (by with_reducible assumption) ?_ (by with_unfolding_all rfl)))) | ((with_reducible show wpAny _ _ (call (Value.builtin "list.sort") _ _) _ _ _); first | (k_here; k_dflt (refine' sort_one (by k_asm) (by k_asm) (by k_updF) ?_); intro h' c' F' N'; (try dsimp only at N'); (try k_sweep))) | ((with_reducible show wpAny _ _ (exec (PySem.Stmt.Assign ..) _) _ _ _); first | (k_here; (with_reducible show wpAny _ _ (exec (PySem.Stmt.Assign _ (PySem.Expr.ListComp _ [⟨_, _, [], _⟩] _ _) _) _) _ _ _); k_dflt (refine' Assign_ListComp_dict (by k_asm) (by exact rfl) (by with_unfolding_all rfl) (by exact rfl) (by decide) (by exact rfl) (by decide) (by exact rfl) (by exact rfl) (by exact rfl) ?_ (by (intro _; with_unfolding_all rfl)))) | (k_here; (with_reducible show wpAny _ _ (exec (PySem.Stmt.Assign _ (PySem.Expr.ListComp _ [⟨_, _, [_], _⟩] _ _) _) _) _ _ _); k_dflt (refine' Assign_ListComp_dictT (by k_asm) (by exact rfl) (by with_unfolding_all rfl) (by exact rfl) (by decide) (by exact rfl) (by decide) (by exact rfl) (by exact rfl) (by exact rfl) ?_ (by (intro _; with_unfolding_all rfl))))) | ((with_reducible show wpAny _ _ (subscriptTail _ _ (Value.ref _) (Value.ref _)) _ _ _); first | (k_here; k_dflt (refine' slice_domK (by k_asm) (by k_asm) (by k_asm) (by walk_at "lc") (by k_mem) (by k_mem) (by k_is) (by k_is) (by omega) (by (intro i; exact ⟨_, by with_unfolding_all rfl⟩)) ?_); intro D' h' F' N' l1; (try k_lt l1); (try k_sweep))) | ((with_reducible show wpAny _ _ (exec (PySem.Stmt.While ..) _) _ _ _); first | (k_here; refine' While_once (by passes_own) ?_))) | walk1 | (dsimp only; walk1) | (leave1; walk_say "STEP leave1"; (try dsimp only)) | fail "no step"))
    try dsimp only
    refine seg_stmt ?_
    (repeat' (first | (k_unfold; (try dsimp only)) | (k_end; kc_close) | (lge_end; k_here; first | ((with_reducible show OnceEnd ..); (unfold OnceEnd; dsimp only)) | ((with_reducible show SegSrc ..); (k_here; k_dflt (refine' ⟨_, _, _, _, _, rfl, by k_asm, by k_asm, by k_mem, ?_⟩); intro p' I' oI' h' tk' F' N' l1; (try k_lt l1); (try k_sweep))) | ((with_reducible show LCg.FinA ..); ((unfold LCg.FinA); intro D' h' tk' F' N' o1'; (have hOffNe := off1_ne o1'); clear o1'; (walk_at "k_clearNe"); (try simp only [List.nil_append, List.cons_append] at N'); (try dsimp only); (try k_sweep))) | ((with_reducible show LCg.CompEnd ..); (k_here; k_dflt (refine' compEnd_at1 (by k_asm) (by with_reducible assumption) (by (simp only [LCg.Off3, and_true]; assumption)) (by omega) (by omega) (by omega) (by k_mem) ?_))) | ((with_reducible show LCg.CompEnd ..); (k_here; k_dflt (refine' compEnd_at (by k_asm) (by with_reducible assumption) (by (simp only [LCg.Off3, and_true]; assumption)) (by k_mem) ?_))) | ((with_reducible show DSrcT ..); (k_here; k_dflt (refine' DSrcT.of (by exact rfl) (by k_asm) (by k_asm) (by k_mem) (by with_reducible assumption) (by with_reducible assumption) ?_); intro g')) | ((with_reducible show DSrc ..); (k_here; k_dflt (refine' DSrc.of (by exact rfl) (by k_asm) (by k_asm) (by k_mem) (by with_reducible assumption) (by with_reducible assumption) ?_); intro g'))) | (k_here; first | ((with_reducible show wpAny _ _ (delItem (Value.ref _) (Value.str _ _)) _ _ _); first | (k_here; k_dflt (refine' del_a1 (by k_asm) (by k_asm) (by k_updF) (by with_reducible assumption) ?_); intro h' o' F' N' hd'; (try dsimp only at N'))) | ((with_reducible show wpAny _ _ (setItem (Value.ref _) (Value.str _ _) _) _ _ _); first | (k_here; k_dflt (refine' set_a1 (by k_asm) (by k_asm) (by k_updF) (by with_reducible assumption) ?_); intro h' o' F' N' hd'; (try dsimp only at N')) | (k_here; k_dflt (refine' set_a0 (by k_asm) (by k_asm) (by k_updF) (by with_reducible assumption) ?_); intro h' o' F' N' hd'; (try dsimp only at N'))) | ((with_reducible show wpAny _ _ (truthy (Value.ref _)) _ _ _); first | (k_here; k_dflt (refine' truthy_nil (by k_asm) (by k_mem) ?_)) | (k_here; k_dflt (refine' truthy_one (by k_asm) (by k_mem) ?_)) | (k_here; k_dflt (refine' truthy_some (by k_asm) (by k_mem) (by omega) ?_))) | ((with_reducible show wpAny _ _ (call (Value.builtin "list.pop") _ _) _ _ _); first | (k_here; k_dflt (refine' pop_one (by k_asm) (by k_asm) (by k_upd) ?_); intro h' F' N'; (try k_sweep)) | (k_here; k_dflt (refine' pop_snoc (by k_asm) (by k_asm) (by k_upd) (by (rw [sizeLine_eq]; omega)) ?_); intro h' F' N'; (try k_sweep))) | ((with_reducible show wpAny _ _ (subscriptTail _ _ (Value.ref _) (Value.int _ _)) _ _ _); first | (k_here; k_dflt (refine' tup_last (by k_asm) (by k_mem) ?_ (by with_unfolding_all rfl) (by (intro _; with_unfolding_all rfl))))) | ((with_reducible show wpAny _ _ (subscriptTail _ _ (Value.ref _) (Value.str _ _)) _ _ _); first | (k_here; k_dflt (refine' dict_one (by k_asm) (by k_mem) (by with_reducible assumption) ?_ (by with_unfolding_all rfl)))) | ((with_reducible show wpAny _ _ (call (Value.builtin "list.sort") _ _) _ _ _); first | (k_here; k_dflt (refine' sort_one (by k_asm) (by k_asm) (by k_updF) ?_); intro h' c' F' N'; (try dsimp only at N'); (try k_sweep))) | ((with_reducible show wpAny _ _ (exec (PySem.Stmt.Assign ..) _) _ _ _); first | (k_here; (with_reducible show wpAny _ _ (exec (PySem.Stmt.Assign _ (PySem.Expr.ListComp _ [⟨_, _, [], _⟩] _ _) _) _) _ _ _); k_dflt (refine' Assign_ListComp_dict (by k_asm) (by exact rfl) (by with_unfolding_all rfl) (by exact rfl) (by decide) (by exact rfl) (by decide) (by exact rfl) (by exact rfl) (by exact rfl) ?_ (by (intro _; with_unfolding_all rfl)))) | (k_here; (with_reducible show wpAny _ _ (exec (PySem.Stmt.Assign _ (PySem.Expr.ListComp _ [⟨_, _, [_], _⟩] _ _) _) _) _ _ _); k_dflt (refine' Assign_ListComp_dictT (by k_asm) (by exact rfl) (by with_unfolding_all rfl) (by exact rfl) (by decide) (by exact rfl) (by decide) (by exact rfl) (by exact rfl) (by exact rfl) ?_ (by (intro _; with_unfolding_all rfl))))) | ((with_reducible show wpAny _ _ (subscriptTail _ _ (Value.ref _) (Value.ref _)) _ _ _); first | (k_here; k_dflt (refine' slice_domK (by k_asm) (by k_asm) (by k_asm) (by walk_at "lc") (by k_mem) (by k_mem) (by k_is) (by k_is) (by omega) (by (intro i; exact ⟨_, by with_unfolding_all rfl⟩)) ?_); intro D' h' F' N' l1; (try k_lt l1); (try k_sweep))) | ((with_reducible show wpAny _ _ (exec (PySem.Stmt.While ..) _) _ _ _); first | (k_here; refine' While_once (by passes_own) ?_))) | walk1 | (dsimp only; walk1) | (leave1; walk_say "STEP leave1"; (try dsimp only)) | fail "no step"))
    try dsimp only
    refine seg_stmt ?_
    (repeat' (first | (k_unfold; (try dsimp only)) | (k_end; kc_close) | (lge_end; k_here; first | ((with_reducible show OnceEnd ..); (unfold OnceEnd; dsimp only)) | ((with_reducible show SegSrc ..); (k_here; k_dflt (refine' ⟨_, _, _, _, _, rfl, by k_asm, by k_asm, by k_mem, ?_⟩); intro p' I' oI' h' tk' F' N' l1; (try k_lt l1); (try k_sweep))) | ((with_reducible show LCg.FinA ..); ((unfold LCg.FinA); intro D' h' tk' F' N' o1'; (have hOffNe := off1_ne o1'); clear o1'; (walk_at "k_clearNe"); (try simp only [List.nil_append, List.cons_append] at N'); (try dsimp only); (try k_sweep))) | ((with_reducible show LCg.CompEnd ..); (k_here; k_dflt (refine' compEnd_at1 (by k_asm) (by with_reducible assumption) (by (simp only [LCg.Off3, and_true]; assumption)) (by omega) (by omega) (by omega) (by k_mem) ?_))) | ((with_reducible show LCg.CompEnd ..); (k_here; k_dflt (refine' compEnd_at (by k_asm) (by with_reducible assumption) (by (simp only [LCg.Off3, and_true]; assumption)) (by k_mem) ?_))) | ((with_reducible show DSrcT ..); (k_here; k_dflt (refine' DSrcT.of (by exact rfl) (by k_asm) (by k_asm) (by k_mem) (by with_reducible assumption) (by with_reducible assumption) ?_); intro g')) | ((with_reducible show DSrc ..); (k_here; k_dflt (refine' DSrc.of (by exact rfl) (by k_asm) (by k_asm) (by k_mem) (by with_reducible assumption) (by with_reducible assumption) ?_); intro g'))) | (k_here; first | ((with_reducible show wpAny _ _ (delItem (Value.ref _) (Value.str _ _)) _ _ _); first | (k_here; k_dflt (refine' del_a1 (by k_asm) (by k_asm) (by k_updF) (by with_reducible assumption) ?_); intro h' o' F' N' hd'; (try dsimp only at N'))) | ((with_reducible show wpAny _ _ (setItem (Value.ref _) (Value.str _ _) _) _ _ _); first | (k_here; k_dflt (refine' set_a1 (by k_asm) (by k_asm) (by k_updF) (by with_reducible assumption) ?_); intro h' o' F' N' hd'; (try dsimp only at N')) | (k_here; k_dflt (refine' set_a0 (by k_asm) (by k_asm) (by k_updF) (by with_reducible assumption) ?_); intro h' o' F' N' hd'; (try dsimp only at N'))) | ((with_reducible show wpAny _ _ (truthy (Value.ref _)) _ _ _); first | (k_here; k_dflt (refine' truthy_nil (by k_asm) (by k_mem) ?_)) | (k_here; k_dflt (refine' truthy_one (by k_asm) (by k_mem) ?_)) | (k_here; k_dflt (refine' truthy_some (by k_asm) (by k_mem) (by omega) ?_))) | ((with_reducible show wpAny _ _ (call (Value.builtin "list.pop") _ _) _ _ _); first | (k_here; k_dflt (refine' pop_one (by k_asm) (by k_asm) (by k_upd) ?_); intro h' F' N'; (try k_sweep)) | (k_here; k_dflt (refine' pop_snoc (by k_asm) (by k_asm) (by k_upd) (by (rw [sizeLine_eq]; omega)) ?_); intro h' F' N'; (try k_sweep))) | ((with_reducible show wpAny _ _ (subscriptTail _ _ (Value.ref _) (Value.int _ _)) _ _ _); first | (k_here; k_dflt (refine' tup_last (by k_asm) (by k_mem) ?_ (by with_unfolding_all rfl) (by (intro _; with_unfolding_all rfl))))) | ((with_reducible show wpAny _ _ (subscriptTail _ _ (Value.ref _) (Value.str _ _)) _ _ _); first | (k_here; k_dflt (refine' dict_one (by k_asm) (by k_mem) (by with_reducible assumption) ?_ (by with_unfolding_all rfl)))) | ((with_reducible show wpAny _ _ (call (Value.builtin "list.sort") _ _) _ _ _); first | (k_here; k_dflt (refine' sort_one (by k_asm) (by k_asm) (by k_updF) ?_); intro h' c' F' N'; (try dsimp only at N'); (try k_sweep))) | ((with_reducible show wpAny _ _ (exec (PySem.Stmt.Assign ..) _) _ _ _); first | (k_here; (with_reducible show wpAny _ _ (exec (PySem.Stmt.Assign _ (PySem.Expr.ListComp _ [⟨_, _, [], _⟩] _ _) _) _) _ _ _); k_dflt (refine' Assign_ListComp_dict (by k_asm) (by exact rfl) (by with_unfolding_all rfl) (by exact rfl) (by decide) (by exact rfl) (by decide) (by exact rfl) (by exact rfl) (by exact rfl) ?_ (by (intro _; with_unfolding_all rfl)))) | (k_here; (with_reducible show wpAny _ _ (exec (PySem.Stmt.Assign _ (PySem.Expr.ListComp _ [⟨_, _, [_], _⟩] _ _) _) _) _ _ _); k_dflt (refine' Assign_ListComp_dictT (by k_asm) (by exact rfl) (by with_unfolding_all rfl) (by exact rfl) (by decide) (by exact rfl) (by decide) (by exact rfl) (by exact rfl) (by exact rfl) ?_ (by (intro _; with_unfolding_all rfl))))) | ((with_reducible show wpAny _ _ (subscriptTail _ _ (Value.ref _) (Value.ref _)) _ _ _); first | (k_here; k_dflt (refine' slice_domK (by k_asm) (by k_asm) (by k_asm) (by walk_at "lc") (by k_mem) (by k_mem) (by k_is) (by k_is) (by omega) (by (intro i; exact ⟨_, by with_unfolding_all rfl⟩)) ?_); intro D' h' F' N' l1; (try k_lt l1); (try k_sweep))) | ((with_reducible show wpAny _ _ (exec (PySem.Stmt.While ..) _) _ _ _); first | (k_here; refine' While_once (by passes_own) ?_))) | walk1 | (dsimp only; walk1) | (leave1; walk_say "STEP leave1"; (try dsimp only)) | fail "no step"))
    refine seg_execs_cons (seg_For1 (h₀ := gb) (L := Lg) ?hs ?hh ?src ?ht)
    (case hs => intro _; with_unfolding_all rfl)
    (case hh => intro _ _; rfl)
    (case ht => intro _ _; rfl)
    (repeat' (first | (k_unfold; (try dsimp only)) | (k_end; kc_close) | (lge_end; k_here; first | ((with_reducible show OnceEnd ..); (unfold OnceEnd; dsimp only)) | ((with_reducible show SegSrc ..); (k_here; k_dflt (refine' ⟨_, _, _, _, _, rfl, by k_asm, by k_asm, by k_mem, ?_⟩); intro p' I' oI' h' tk' F' N' l1; (try k_lt l1); (try k_sweep))) | ((with_reducible show LCg.FinA ..); ((unfold LCg.FinA); intro D' h' tk' F' N' o1'; (have hOffNe := off1_ne o1'); clear o1'; (walk_at "k_clearNe"); (try simp only [List.nil_append, List.cons_append] at N'); (try dsimp only); (try k_sweep))) | ((with_reducible show LCg.CompEnd ..); (k_here; k_dflt (refine' compEnd_at1 (by k_asm) (by with_reducible assumption) (by (simp only [LCg.Off3, and_true]; assumption)) (by omega) (by omega) (by omega) (by k_mem) ?_))) | ((with_reducible show LCg.CompEnd ..); (k_here; k_dflt (refine' compEnd_at (by k_asm) (by with_reducible assumption) (by (simp only [LCg.Off3, and_true]; assumption)) (by k_mem) ?_))) | ((with_reducible show DSrcT ..); (k_here; k_dflt (refine' DSrcT.of (by exact rfl) (by k_asm) (by k_asm) (by k_mem) (by with_reducible assumption) (by with_reducible assumption) ?_); intro g')) | ((with_reducible show DSrc ..); (k_here; k_dflt (refine' DSrc.of (by exact rfl) (by k_asm) (by k_asm) (by k_mem) (by with_reducible assumption) (by with_reducible assumption) ?_); intro g'))) | (k_here; first | ((with_reducible show wpAny _ _ (delItem (Value.ref _) (Value.str _ _)) _ _ _); first | (k_here; k_dflt (refine' del_a1 (by k_asm) (by k_asm) (by k_updF) (by with_reducible assumption) ?_); intro h' o' F' N' hd'; (try dsimp only at N'))) | ((with_reducible show wpAny _ _ (setItem (Value.ref _) (Value.str _ _) _) _ _ _); first | (k_here; k_dflt (refine' set_a1 (by k_asm) (by k_asm) (by k_updF) (by with_reducible assumption) ?_); intro h' o' F' N' hd'; (try dsimp only at N')) | (k_here; k_dflt (refine' set_a0 (by k_asm) (by k_asm) (by k_updF) (by with_reducible assumption) ?_); intro h' o' F' N' hd'; (try dsimp only at N'))) | ((with_reducible show wpAny _ _ (truthy (Value.ref _)) _ _ _); first | (k_here; k_dflt (refine' truthy_nil (by k_asm) (by k_mem) ?_)) | (k_here; k_dflt (refine' truthy_one (by k_asm) (by k_mem) ?_)) | (k_here; k_dflt (refine' truthy_some (by k_asm) (by k_mem) (by omega) ?_))) | ((with_reducible show wpAny _ _ (call (Value.builtin "list.pop") _ _) _ _ _); first | (k_here; k_dflt (refine' pop_one (by k_asm) (by k_asm) (by k_upd) ?_); intro h' F' N'; (try k_sweep)) | (k_here; k_dflt (refine' pop_snoc (by k_asm) (by k_asm) (by k_upd) (by (rw [sizeLine_eq]; omega)) ?_); intro h' F' N'; (try k_sweep))) | ((with_reducible show wpAny _ _ (subscriptTail _ _ (Value.ref _) (Value.int _ _)) _ _ _); first | (k_here; k_dflt (refine' tup_last (by k_asm) (by k_mem) ?_ (by with_unfolding_all rfl) (by (intro _; with_unfolding_all rfl))))) | ((with_reducible show wpAny _ _ (subscriptTail _ _ (Value.ref _) (Value.str _ _)) _ _ _); first | (k_here; k_dflt (refine' dict_one (by k_asm) (by k_mem) (by with_reducible assumption) ?_ (by with_unfolding_all rfl)))) | ((with_reducible show wpAny _ _ (call (Value.builtin "list.sort") _ _) _ _ _); first | (k_here; k_dflt (refine' sort_one (by k_asm) (by k_asm) (by k_updF) ?_); intro h' c' F' N'; (try dsimp only at N'); (try k_sweep))) | ((with_reducible show wpAny _ _ (exec (PySem.Stmt.Assign ..) _) _ _ _); first | (k_here; (with_reducible show wpAny _ _ (exec (PySem.Stmt.Assign _ (PySem.Expr.ListComp _ [⟨_, _, [], _⟩] _ _) _) _) _ _ _); k_dflt (refine' Assign_ListComp_dict (by k_asm) (by exact rfl) (by with_unfolding_all rfl) (by exact rfl) (by decide) (by exact rfl) (by decide) (by exact rfl) (by exact rfl) (by exact rfl) ?_ (by (intro _; with_unfolding_all rfl)))) | (k_here; (with_reducible show wpAny _ _ (exec (PySem.Stmt.Assign _ (PySem.Expr.ListComp _ [⟨_, _, [_], _⟩] _ _) _) _) _ _ _); k_dflt (refine' Assign_ListComp_dictT (by k_asm) (by exact rfl) (by with_unfolding_all rfl) (by exact rfl) (by decide) (by exact rfl) (by decide) (by exact rfl) (by exact rfl) (by exact rfl) ?_ (by (intro _; with_unfolding_all rfl))))) | ((with_reducible show wpAny _ _ (subscriptTail _ _ (Value.ref _) (Value.ref _)) _ _ _); first | (k_here; k_dflt (refine' slice_domK (by k_asm) (by k_asm) (by k_asm) (by walk_at "lc") (by k_mem) (by k_mem) (by k_is) (by k_is) (by omega) (by (intro i; exact ⟨_, by with_unfolding_all rfl⟩)) ?_); intro D' h' F' N' l1; (try k_lt l1); (try k_sweep))) | ((with_reducible show wpAny _ _ (exec (PySem.Stmt.While ..) _) _ _ _); first | (k_here; refine' While_once (by passes_own) ?_))) | walk1 | (dsimp only; walk1) | (leave1; walk_say "STEP leave1"; (try dsimp only)) | fail "no step"))
    refine seg_block ?_
    refine seg_execs_cons (seg_Expr_Yield rfl rfl rfl ?_)
    (repeat' (first | (k_unfold; (try dsimp only)) | (k_end; kc_close) | (lge_end; k_here; first | ((with_reducible show OnceEnd ..); (unfold OnceEnd; dsimp only)) | ((with_reducible show SegSrc ..); (k_here; k_dflt (refine' ⟨_, _, _, _, _, rfl, by k_asm, by k_asm, by k_mem, ?_⟩); intro p' I' oI' h' tk' F' N' l1; (try k_lt l1); (try k_sweep))) | ((with_reducible show LCg.FinA ..); ((unfold LCg.FinA); intro D' h' tk' F' N' o1'; (have hOffNe := off1_ne o1'); clear o1'; (walk_at "k_clearNe"); (try simp only [List.nil_append, List.cons_append] at N'); (try dsimp only); (try k_sweep))) | ((with_reducible show LCg.CompEnd ..); (k_here; k_dflt (refine' compEnd_at1 (by k_asm) (by with_reducible assumption) (by (simp only [LCg.Off3, and_true]; assumption)) (by omega) (by omega) (by omega) (by k_mem) ?_))) | ((with_reducible show LCg.CompEnd ..); (k_here; k_dflt (refine' compEnd_at (by k_asm) (by with_reducible assumption) (by (simp only [LCg.Off3, and_true]; assumption)) (by k_mem) ?_))) | ((with_reducible show DSrcT ..); (k_here; k_dflt (refine' DSrcT.of (by exact rfl) (by k_asm) (by k_asm) (by k_mem) (by with_reducible assumption) (by with_reducible assumption) ?_); intro g')) | ((with_reducible show DSrc ..); (k_here; k_dflt (refine' DSrc.of (by exact rfl) (by k_asm) (by k_asm) (by k_mem) (by with_reducible assumption) (by with_reducible assumption) ?_); intro g'))) | (k_here; first | ((with_reducible show wpAny _ _ (delItem (Value.ref _) (Value.str _ _)) _ _ _); first | (k_here; k_dflt (refine' del_a1 (by k_asm) (by k_asm) (by k_updF) (by with_reducible assumption) ?_); intro h' o' F' N' hd'; (try dsimp only at N'))) | ((with_reducible show wpAny _ _ (setItem (Value.ref _) (Value.str _ _) _) _ _ _); first | (k_here; k_dflt (refine' set_a1 (by k_asm) (by k_asm) (by k_updF) (by with_reducible assumption) ?_); intro h' o' F' N' hd'; (try dsimp only at N')) | (k_here; k_dflt (refine' set_a0 (by k_asm) (by k_asm) (by k_updF) (by with_reducible assumption) ?_); intro h' o' F' N' hd'; (try dsimp only at N'))) | ((with_reducible show wpAny _ _ (truthy (Value.ref _)) _ _ _); first | (k_here; k_dflt (refine' truthy_nil (by k_asm) (by k_mem) ?_)) | (k_here; k_dflt (refine' truthy_one (by k_asm) (by k_mem) ?_)) | (k_here; k_dflt (refine' truthy_some (by k_asm) (by k_mem) (by omega) ?_))) | ((with_reducible show wpAny _ _ (call (Value.builtin "list.pop") _ _) _ _ _); first | (k_here; k_dflt (refine' pop_one (by k_asm) (by k_asm) (by k_upd) ?_); intro h' F' N'; (try k_sweep)) | (k_here; k_dflt (refine' pop_snoc (by k_asm) (by k_asm) (by k_upd) (by (rw [sizeLine_eq]; omega)) ?_); intro h' F' N'; (try k_sweep))) | ((with_reducible show wpAny _ _ (subscriptTail _ _ (Value.ref _) (Value.int _ _)) _ _ _); first | (k_here; k_dflt (refine' tup_last (by k_asm) (by k_mem) ?_ (by with_unfolding_all rfl) (by (intro _; with_unfolding_all rfl))))) | ((with_reducible show wpAny _ _ (subscriptTail _ _ (Value.ref _) (Value.str _ _)) _ _ _); first | (k_here; k_dflt (refine' dict_one (by k_asm) (by k_mem) (by with_reducible assumption) ?_ (by with_unfolding_all rfl)))) | ((with_reducible show wpAny _ _ (call (Value.builtin "list.sort") _ _) _ _ _); first | (k_here; k_dflt (refine' sort_one (by k_asm) (by k_asm) (by k_updF) ?_); intro h' c' F' N'; (try dsimp only at N'); (try k_sweep))) | ((with_reducible show wpAny _ _ (exec (PySem.Stmt.Assign ..) _) _ _ _); first | (k_here; (with_reducible show wpAny _ _ (exec (PySem.Stmt.Assign _ (PySem.Expr.ListComp _ [⟨_, _, [], _⟩] _ _) _) _) _ _ _); k_dflt (refine' Assign_ListComp_dict (by k_asm) (by exact rfl) (by with_unfolding_all rfl) (by exact rfl) (by decide) (by exact rfl) (by decide) (by exact rfl) (by exact rfl) (by exact rfl) ?_ (by (intro _; with_unfolding_all rfl)))) | (k_here; (with_reducible show wpAny _ _ (exec (PySem.Stmt.Assign _ (PySem.Expr.ListComp _ [⟨_, _, [_], _⟩] _ _) _) _) _ _ _); k_dflt (refine' Assign_ListComp_dictT (by k_asm) (by exact rfl) (by with_unfolding_all rfl) (by exact rfl) (by decide) (by exact rfl) (by decide) (by exact rfl) (by exact rfl) (by exact rfl) ?_ (by (intro _; with_unfolding_all rfl))))) | ((with_reducible show wpAny _ _ (subscriptTail _ _ (Value.ref _) (Value.ref _)) _ _ _); first | (k_here; k_dflt (refine' slice_domK (by k_asm) (by k_asm) (by k_asm) (by walk_at "lc") (by k_mem) (by k_mem) (by k_is) (by k_is) (by omega) (by (intro i; exact ⟨_, by with_unfolding_all rfl⟩)) ?_); intro D' h' F' N' l1; (try k_lt l1); (try k_sweep))) | ((with_reducible show wpAny _ _ (exec (PySem.Stmt.While ..) _) _ _ _); first | (k_here; refine' While_once (by passes_own) ?_))) | walk1 | (dsimp only; walk1) | (leave1; walk_say "STEP leave1"; (try dsimp only)) | fail "no step"))
    rename_i a9 h9 o9 F9 N9 hd9 lo9 hA9 l9 kap hkap
    have ha9 : gb.get? a9 = none := (N9 _ (.head _)).2.2
    have hS9 : a9 ≠ S := Nat.ne_of_gt (by omega)
    refine' gy_of ?gF ?gN ?gU ?ga ?gS eS (hG _ ?gB ?gT) ?gd hV2 hkap ?gn
    (case gF => k_asm)
    (case gN => k_asm)
    (case gU => k_updF)
    (case ga => k_mem)
    (case gS => omega)
    (case gB => exact Fr.keep (by k_asm))
    (case gT => (intro p hp; refine ((?gN2 : News gb Lg _ _) p ?gM).1; (case gN2 => k_asm); (repeat (first | exact hp | refine List.Mem.tail _ ?_))))
    (case gd => assumption)
    intro s3 c3 e3 F3 N3
    try dsimp only at N3
    refine seg_stmt ?_
    (repeat' (first | (k_unfold; (try dsimp only)) | (k_end; kc_close) | (lge_end; k_here; first | ((with_reducible show OnceEnd ..); (unfold OnceEnd; dsimp only)) | ((with_reducible show SegSrc ..); (k_here; k_dflt (refine' ⟨_, _, _, _, _, rfl, by k_asm, by k_asm, by k_mem, ?_⟩); intro p' I' oI' h' tk' F' N' l1; (try k_lt l1); (try k_sweep))) | ((with_reducible show LCg.FinA ..); ((unfold LCg.FinA); intro D' h' tk' F' N' o1'; (have hOffNe := off1_ne o1'); clear o1'; (walk_at "k_clearNe"); (try simp only [List.nil_append, List.cons_append] at N'); (try dsimp only); (try k_sweep))) | ((with_reducible show LCg.CompEnd ..); (k_here; k_dflt (refine' compEnd_at1 (by k_asm) (by with_reducible assumption) (by (simp only [LCg.Off3, and_true]; assumption)) (by omega) (by omega) (by omega) (by k_mem) ?_))) | ((with_reducible show LCg.CompEnd ..); (k_here; k_dflt (refine' compEnd_at (by k_asm) (by with_reducible assumption) (by (simp only [LCg.Off3, and_true]; assumption)) (by k_mem) ?_))) | ((with_reducible show DSrcT ..); (k_here; k_dflt (refine' DSrcT.of (by exact rfl) (by k_asm) (by k_asm) (by k_mem) (by with_reducible assumption) (by with_reducible assumption) ?_); intro g')) | ((with_reducible show DSrc ..); (k_here; k_dflt (refine' DSrc.of (by exact rfl) (by k_asm) (by k_asm) (by k_mem) (by with_reducible assumption) (by with_reducible assumption) ?_); intro g'))) | (k_here; first | ((with_reducible show wpAny _ _ (delItem (Value.ref _) (Value.str _ _)) _ _ _); first | (k_here; k_dflt (refine' del_a1 (by k_asm) (by k_asm) (by k_updF) (by with_reducible assumption) ?_); intro h' o' F' N' hd'; (try dsimp only at N'))) | ((with_reducible show wpAny _ _ (setItem (Value.ref _) (Value.str _ _) _) _ _ _); first | (k_here; k_dflt (refine' set_a1 (by k_asm) (by k_asm) (by k_updF) (by with_reducible assumption) ?_); intro h' o' F' N' hd'; (try dsimp only at N')) | (k_here; k_dflt (refine' set_a0 (by k_asm) (by k_asm) (by k_updF) (by with_reducible assumption) ?_); intro h' o' F' N' hd'; (try dsimp only at N'))) | ((with_reducible show wpAny _ _ (truthy (Value.ref _)) _ _ _); first | (k_here; k_dflt (refine' truthy_nil (by k_asm) (by k_mem) ?_)) | (k_here; k_dflt (refine' truthy_one (by k_asm) (by k_mem) ?_)) | (k_here; k_dflt (refine' truthy_some (by k_asm) (by k_mem) (by omega) ?_))) | ((with_reducible show wpAny _ _ (call (Value.builtin "list.pop") _ _) _ _ _); first | (k_here; k_dflt (refine' pop_one (by k_asm) (by k_asm) (by k_upd) ?_); intro h' F' N'; (try k_sweep)) | (k_here; k_dflt (refine' pop_snoc (by k_asm) (by k_asm) (by k_upd) (by (rw [sizeLine_eq]; omega)) ?_); intro h' F' N'; (try k_sweep))) | ((with_reducible show wpAny _ _ (subscriptTail _ _ (Value.ref _) (Value.int _ _)) _ _ _); first | (k_here; k_dflt (refine' tup_last (by k_asm) (by k_mem) ?_ (by with_unfolding_all rfl) (by (intro _; with_unfolding_all rfl))))) | ((with_reducible show wpAny _ _ (subscriptTail _ _ (Value.ref _) (Value.str _ _)) _ _ _); first | (k_here; k_dflt (refine' dict_one (by k_asm) (by k_mem) (by with_reducible assumption) ?_ (by with_unfolding_all rfl)))) | ((with_reducible show wpAny _ _ (call (Value.builtin "list.sort") _ _) _ _ _); first | (k_here; k_dflt (refine' sort_one (by k_asm) (by k_asm) (by k_updF) ?_); intro h' c' F' N'; (try dsimp only at N'); (try k_sweep))) | ((with_reducible show wpAny _ _ (exec (PySem.Stmt.Assign ..) _) _ _ _); first | (k_here; (with_reducible show wpAny _ _ (exec (PySem.Stmt.Assign _ (PySem.Expr.ListComp _ [⟨_, _, [], _⟩] _ _) _) _) _ _ _); k_dflt (refine' Assign_ListComp_dict (by k_asm) (by exact rfl) (by with_unfolding_all rfl) (by exact rfl) (by decide) (by exact rfl) (by decide) (by exact rfl) (by exact rfl) (by exact rfl) ?_ (by (intro _; with_unfolding_all rfl)))) | (k_here; (with_reducible show wpAny _ _ (exec (PySem.Stmt.Assign _ (PySem.Expr.ListComp _ [⟨_, _, [_], _⟩] _ _) _) _) _ _ _); k_dflt (refine' Assign_ListComp_dictT (by k_asm) (by exact rfl) (by with_unfolding_all rfl) (by exact rfl) (by decide) (by exact rfl) (by decide) (by exact rfl) (by exact rfl) (by exact rfl) ?_ (by (intro _; with_unfolding_all rfl))))) | ((with_reducible show wpAny _ _ (subscriptTail _ _ (Value.ref _) (Value.ref _)) _ _ _); first | (k_here; k_dflt (refine' slice_domK (by k_asm) (by k_asm) (by k_asm) (by walk_at "lc") (by k_mem) (by k_mem) (by k_is) (by k_is) (by omega) (by (intro i; exact ⟨_, by with_unfolding_all rfl⟩)) ?_); intro D' h' F' N' l1; (try k_lt l1); (try k_sweep))) | ((with_reducible show wpAny _ _ (exec (PySem.Stmt.While ..) _) _ _ _); first | (k_here; refine' While_once (by passes_own) ?_))) | walk1 | (dsimp only; walk1) | (leave1; walk_say "STEP leave1"; (try dsimp only)) | fail "no step"))
    try dsimp only
    refine seg_stmt ?_
    (repeat' (first | (k_unfold; (try dsimp only)) | (k_end; kc_close) | (lge_end; k_here; first | ((with_reducible show OnceEnd ..); (unfold OnceEnd; dsimp only)) | ((with_reducible show SegSrc ..); (k_here; k_dflt (refine' ⟨_, _, _, _, _, rfl, by k_asm, by k_asm, by k_mem, ?_⟩); intro p' I' oI' h' tk' F' N' l1; (try k_lt l1); (try k_sweep))) | ((with_reducible show LCg.FinA ..); ((unfold LCg.FinA); intro D' h' tk' F' N' o1'; (have hOffNe := off1_ne o1'); clear o1'; (walk_at "k_clearNe"); (try simp only [List.nil_append, List.cons_append] at N'); (try dsimp only); (try k_sweep))) | ((with_reducible show LCg.CompEnd ..); (k_here; k_dflt (refine' compEnd_at1 (by k_asm) (by with_reducible assumption) (by (simp only [LCg.Off3, and_true]; assumption)) (by omega) (by omega) (by omega) (by k_mem) ?_))) | ((with_reducible show LCg.CompEnd ..); (k_here; k_dflt (refine' compEnd_at (by k_asm) (by with_reducible assumption) (by (simp only [LCg.Off3, and_true]; assumption)) (by k_mem) ?_))) | ((with_reducible show DSrcT ..); (k_here; k_dflt (refine' DSrcT.of (by exact rfl) (by k_asm) (by k_asm) (by k_mem) (by with_reducible assumption) (by with_reducible assumption) ?_); intro g')) | ((with_reducible show DSrc ..); (k_here; k_dflt (refine' DSrc.of (by exact rfl) (by k_asm) (by k_asm) (by k_mem) (by with_reducible assumption) (by with_reducible assumption) ?_); intro g'))) | (k_here; first | ((with_reducible show wpAny _ _ (delItem (Value.ref _) (Value.str _ _)) _ _ _); first | (k_here; k_dflt (refine' del_a1 (by k_asm) (by k_asm) (by k_updF) (by with_reducible assumption) ?_); intro h' o' F' N' hd'; (try dsimp only at N'))) | ((with_reducible show wpAny _ _ (setItem (Value.ref _) (Value.str _ _) _) _ _ _); first | (k_here; k_dflt (refine' set_a1 (by k_asm) (by k_asm) (by k_updF) (by with_reducible assumption) ?_); intro h' o' F' N' hd'; (try dsimp only at N')) | (k_here; k_dflt (refine' set_a0 (by k_asm) (by k_asm) (by k_updF) (by with_reducible assumption) ?_); intro h' o' F' N' hd'; (try dsimp only at N'))) | ((with_reducible show wpAny _ _ (truthy (Value.ref _)) _ _ _); first | (k_here; k_dflt (refine' truthy_nil (by k_asm) (by k_mem) ?_)) | (k_here; k_dflt (refine' truthy_one (by k_asm) (by k_mem) ?_)) | (k_here; k_dflt (refine' truthy_some (by k_asm) (by k_mem) (by omega) ?_))) | ((with_reducible show wpAny _ _ (call (Value.builtin "list.pop") _ _) _ _ _); first | (k_here; k_dflt (refine' pop_one (by k_asm) (by k_asm) (by k_upd) ?_); intro h' F' N'; (try k_sweep)) | (k_here; k_dflt (refine' pop_snoc (by k_asm) (by k_asm) (by k_upd) (by (rw [sizeLine_eq]; omega)) ?_); intro h' F' N'; (try k_sweep))) | ((with_reducible show wpAny _ _ (subscriptTail _ _ (Value.ref _) (Value.int _ _)) _ _ _); first | (k_here; k_dflt (refine' tup_last (by k_asm) (by k_mem) ?_ (by with_unfolding_all rfl) (by (intro _; with_unfolding_all rfl))))) | ((with_reducible show wpAny _ _ (subscriptTail _ _ (Value.ref _) (Value.str _ _)) _ _ _); first | (k_here; k_dflt (refine' dict_one (by k_asm) (by k_mem) (by with_reducible assumption) ?_ (by with_unfolding_all rfl)))) | ((with_reducible show wpAny _ _ (call (Value.builtin "list.sort") _ _) _ _ _); first | (k_here; k_dflt (refine' sort_one (by k_asm) (by k_asm) (by k_updF) ?_); intro h' c' F' N'; (try dsimp only at N'); (try k_sweep))) | ((with_reducible show wpAny _ _ (exec (PySem.Stmt.Assign ..) _) _ _ _); first | (k_here; (with_reducible show wpAny _ _ (exec (PySem.Stmt.Assign _ (PySem.Expr.ListComp _ [⟨_, _, [], _⟩] _ _) _) _) _ _ _); k_dflt (refine' Assign_ListComp_dict (by k_asm) (by exact rfl) (by with_unfolding_all rfl) (by exact rfl) (by decide) (by exact rfl) (by decide) (by exact rfl) (by exact rfl) (by exact rfl) ?_ (by (intro _; with_unfolding_all rfl)))) | (k_here; (with_reducible show wpAny _ _ (exec (PySem.Stmt.Assign _ (PySem.Expr.ListComp _ [⟨_, _, [_], _⟩] _ _) _) _) _ _ _); k_dflt (refine' Assign_ListComp_dictT (by k_asm) (by exact rfl) (by with_unfolding_all rfl) (by exact rfl) (by decide) (by exact rfl) (by decide) (by exact rfl) (by exact rfl) (by exact rfl) ?_ (by (intro _; with_unfolding_all rfl))))) | ((with_reducible show wpAny _ _ (subscriptTail _ _ (Value.ref _) (Value.ref _)) _ _ _); first | (k_here; k_dflt (refine' slice_domK (by k_asm) (by k_asm) (by k_asm) (by walk_at "lc") (by k_mem) (by k_mem) (by k_is) (by k_is) (by omega) (by (intro i; exact ⟨_, by with_unfolding_all rfl⟩)) ?_); intro D' h' F' N' l1; (try k_lt l1); (try k_sweep))) | ((with_reducible show wpAny _ _ (exec (PySem.Stmt.While ..) _) _ _ _); first | (k_here; refine' While_once (by passes_own) ?_))) | walk1 | (dsimp only; walk1) | (leave1; walk_say "STEP leave1"; (try dsimp only)) | fail "no step"))
    try dsimp only
    refine seg_stmt ?_
    (repeat' (first | (k_unfold; (try dsimp only)) | (k_end; kc_close) | (lge_end; k_here; first | ((with_reducible show OnceEnd ..); (unfold OnceEnd; dsimp only)) | ((with_reducible show SegSrc ..); (k_here; k_dflt (refine' ⟨_, _, _, _, _, rfl, by k_asm, by k_asm, by k_mem, ?_⟩); intro p' I' oI' h' tk' F' N' l1; (try k_lt l1); (try k_sweep))) | ((with_reducible show LCg.FinA ..); ((unfold LCg.FinA); intro D' h' tk' F' N' o1'; (have hOffNe := off1_ne o1'); clear o1'; (walk_at "k_clearNe"); (try simp only [List.nil_append, List.cons_append] at N'); (try dsimp only); (try k_sweep))) | ((with_reducible show LCg.CompEnd ..); (k_here; k_dflt (refine' compEnd_at1 (by k_asm) (by with_reducible assumption) (by (simp only [LCg.Off3, and_true]; assumption)) (by omega) (by omega) (by omega) (by k_mem) ?_))) | ((with_reducible show LCg.CompEnd ..); (k_here; k_dflt (refine' compEnd_at (by k_asm) (by with_reducible assumption) (by (simp only [LCg.Off3, and_true]; assumption)) (by k_mem) ?_))) | ((with_reducible show DSrcT ..); (k_here; k_dflt (refine' DSrcT.of (by exact rfl) (by k_asm) (by k_asm) (by k_mem) (by with_reducible assumption) (by with_reducible assumption) ?_); intro g')) | ((with_reducible show DSrc ..); (k_here; k_dflt (refine' DSrc.of (by exact rfl) (by k_asm) (by k_asm) (by k_mem) (by with_reducible assumption) (by with_reducible assumption) ?_); intro g'))) | (k_here; first | ((with_reducible show wpAny _ _ (delItem (Value.ref _) (Value.str _ _)) _ _ _); first | (k_here; k_dflt (refine' del_a1 (by k_asm) (by k_asm) (by k_updF) (by with_reducible assumption) ?_); intro h' o' F' N' hd'; (try dsimp only at N'))) | ((with_reducible show wpAny _ _ (setItem (Value.ref _) (Value.str _ _) _) _ _ _); first | (k_here; k_dflt (refine' set_a1 (by k_asm) (by k_asm) (by k_updF) (by with_reducible assumption) ?_); intro h' o' F' N' hd'; (try dsimp only at N')) | (k_here; k_dflt (refine' set_a0 (by k_asm) (by k_asm) (by k_updF) (by with_reducible assumption) ?_); intro h' o' F' N' hd'; (try dsimp only at N'))) | ((with_reducible show wpAny _ _ (truthy (Value.ref _)) _ _ _); first | (k_here; k_dflt (refine' truthy_nil (by k_asm) (by k_mem) ?_)) | (k_here; k_dflt (refine' truthy_one (by k_asm) (by k_mem) ?_)) | (k_here; k_dflt (refine' truthy_some (by k_asm) (by k_mem) (by omega) ?_))) | ((with_reducible show wpAny _ _ (call (Value.builtin "list.pop") _ _) _ _ _); first | (k_here; k_dflt (refine' pop_one (by k_asm) (by k_asm) (by k_upd) ?_); intro h' F' N'; (try k_sweep)) | (k_here; k_dflt (refine' pop_snoc (by k_asm) (by k_asm) (by k_upd) (by (rw [sizeLine_eq]; omega)) ?_); intro h' F' N'; (try k_sweep))) | ((with_reducible show wpAny _ _ (subscriptTail _ _ (Value.ref _) (Value.int _ _)) _ _ _); first | (k_here; k_dflt (refine' tup_last (by k_asm) (by k_mem) ?_ (by with_unfolding_all rfl) (by (intro _; with_unfolding_all rfl))))) | ((with_reducible show wpAny _ _ (subscriptTail _ _ (Value.ref _) (Value.str _ _)) _ _ _); first | (k_here; k_dflt (refine' dict_one (by k_asm) (by k_mem) (by with_reducible assumption) ?_ (by with_unfolding_all rfl)))) | ((with_reducible show wpAny _ _ (call (Value.builtin "list.sort") _ _) _ _ _); first | (k_here; k_dflt (refine' sort_one (by k_asm) (by k_asm) (by k_updF) ?_); intro h' c' F' N'; (try dsimp only at N'); (try k_sweep))) | ((with_reducible show wpAny _ _ (exec (PySem.Stmt.Assign ..) _) _ _ _); first | (k_here; (with_reducible show wpAny _ _ (exec (PySem.Stmt.Assign _ (PySem.Expr.ListComp _ [⟨_, _, [], _⟩] _ _) _) _) _ _ _); k_dflt (refine' Assign_ListComp_dict (by k_asm) (by exact rfl) (by with_unfolding_all rfl) (by exact rfl) (by decide) (by exact rfl) (by decide) (by exact rfl) (by exact rfl) (by exact rfl) ?_ (by (intro _; with_unfolding_all rfl)))) | (k_here; (with_reducible show wpAny _ _ (exec (PySem.Stmt.Assign _ (PySem.Expr.ListComp _ [⟨_, _, [_], _⟩] _ _) _) _) _ _ _); k_dflt (refine' Assign_ListComp_dictT (by k_asm) (by exact rfl) (by with_unfolding_all rfl) (by exact rfl) (by decide) (by exact rfl) (by decide) (by exact rfl) (by exact rfl) (by exact rfl) ?_ (by (intro _; with_unfolding_all rfl))))) | ((with_reducible show wpAny _ _ (subscriptTail _ _ (Value.ref _) (Value.ref _)) _ _ _); first | (k_here; k_dflt (refine' slice_domK (by k_asm) (by k_asm) (by k_asm) (by walk_at "lc") (by k_mem) (by k_mem) (by k_is) (by k_is) (by omega) (by (intro i; exact ⟨_, by with_unfolding_all rfl⟩)) ?_); intro D' h' F' N' l1; (try k_lt l1); (try k_sweep))) | ((with_reducible show wpAny _ _ (exec (PySem.Stmt.While ..) _) _ _ _); first | (k_here; refine' While_once (by passes_own) ?_))) | walk1 | (dsimp only; walk1) | (leave1; walk_say "STEP leave1"; (try dsimp only)) | fail "no step"))
    try dsimp only
    refine seg_execs_nil ?_
    refine seg_leaf (.ok .next) (seg_quiet (wpAny_onRaise (wpAny_pure ?_)))
    try dsimp only
    have hr : rem.length ≤ 8 := by have := congrArg List.length hV2; simp at this; omega
    rcases List.eq_nil_or_concat rem with hrem | ⟨rem', y, hrem⟩
    · subst hrem
      refine seg_stmt ?_
      (repeat' (first | (k_unfold; (try dsimp only)) | (k_end; kc_close) | (lge_end; k_here; first | ((with_reducible show OnceEnd ..); (unfold OnceEnd; dsimp only)) | ((with_reducible show SegSrc ..); (k_here; k_dflt (refine' ⟨_, _, _, _, _, rfl, by k_asm, by k_asm, by k_mem, ?_⟩); intro p' I' oI' h' tk' F' N' l1; (try k_lt l1); (try k_sweep))) | ((with_reducible show LCg.FinA ..); ((unfold LCg.FinA); intro D' h' tk' F' N' o1'; (have hOffNe := off1_ne o1'); clear o1'; (walk_at "k_clearNe"); (try simp only [List.nil_append, List.cons_append] at N'); (try dsimp only); (try k_sweep))) | ((with_reducible show LCg.CompEnd ..); (k_here; k_dflt (refine' compEnd_at1 (by k_asm) (by with_reducible assumption) (by (simp only [LCg.Off3, and_true]; assumption)) (by omega) (by omega) (by omega) (by k_mem) ?_))) | ((with_reducible show LCg.CompEnd ..); (k_here; k_dflt (refine' compEnd_at (by k_asm) (by with_reducible assumption) (by (simp only [LCg.Off3, and_true]; assumption)) (by k_mem) ?_))) | ((with_reducible show DSrcT ..); (k_here; k_dflt (refine' DSrcT.of (by exact rfl) (by k_asm) (by k_asm) (by k_mem) (by with_reducible assumption) (by with_reducible assumption) ?_); intro g')) | ((with_reducible show DSrc ..); (k_here; k_dflt (refine' DSrc.of (by exact rfl) (by k_asm) (by k_asm) (by k_mem) (by with_reducible assumption) (by with_reducible assumption) ?_); intro g'))) | (k_here; first | ((with_reducible show wpAny _ _ (delItem (Value.ref _) (Value.str _ _)) _ _ _); first | (k_here; k_dflt (refine' del_a1 (by k_asm) (by k_asm) (by k_updF) (by with_reducible assumption) ?_); intro h' o' F' N' hd'; (try dsimp only at N'))) | ((with_reducible show wpAny _ _ (setItem (Value.ref _) (Value.str _ _) _) _ _ _); first | (k_here; k_dflt (refine' set_a1 (by k_asm) (by k_asm) (by k_updF) (by with_reducible assumption) ?_); intro h' o' F' N' hd'; (try dsimp only at N')) | (k_here; k_dflt (refine' set_a0 (by k_asm) (by k_asm) (by k_updF) (by with_reducible assumption) ?_); intro h' o' F' N' hd'; (try dsimp only at N'))) | ((with_reducible show wpAny _ _ (truthy (Value.ref _)) _ _ _); first | (k_here; k_dflt (refine' truthy_nil (by k_asm) (by k_mem) ?_)) | (k_here; k_dflt (refine' truthy_one (by k_asm) (by k_mem) ?_)) | (k_here; k_dflt (refine' truthy_some (by k_asm) (by k_mem) (by omega) ?_))) | ((with_reducible show wpAny _ _ (call (Value.builtin "list.pop") _ _) _ _ _); first | (k_here; k_dflt (refine' pop_one (by k_asm) (by k_asm) (by k_upd) ?_); intro h' F' N'; (try k_sweep)) | (k_here; k_dflt (refine' pop_snoc (by k_asm) (by k_asm) (by k_upd) (by (rw [sizeLine_eq]; omega)) ?_); intro h' F' N'; (try k_sweep))) | ((with_reducible show wpAny _ _ (subscriptTail _ _ (Value.ref _) (Value.int _ _)) _ _ _); first | (k_here; k_dflt (refine' tup_last (by k_asm) (by k_mem) ?_ (by with_unfolding_all rfl) (by (intro _; with_unfolding_all rfl))))) | ((with_reducible show wpAny _ _ (subscriptTail _ _ (Value.ref _) (Value.str _ _)) _ _ _); first | (k_here; k_dflt (refine' dict_one (by k_asm) (by k_mem) (by with_reducible assumption) ?_ (by with_unfolding_all rfl)))) | ((with_reducible show wpAny _ _ (call (Value.builtin "list.sort") _ _) _ _ _); first | (k_here; k_dflt (refine' sort_one (by k_asm) (by k_asm) (by k_updF) ?_); intro h' c' F' N'; (try dsimp only at N'); (try k_sweep))) | ((with_reducible show wpAny _ _ (exec (PySem.Stmt.Assign ..) _) _ _ _); first | (k_here; (with_reducible show wpAny _ _ (exec (PySem.Stmt.Assign _ (PySem.Expr.ListComp _ [⟨_, _, [], _⟩] _ _) _) _) _ _ _); k_dflt (refine' Assign_ListComp_dict (by k_asm) (by exact rfl) (by with_unfolding_all rfl) (by exact rfl) (by decide) (by exact rfl) (by decide) (by exact rfl) (by exact rfl) (by exact rfl) ?_ (by (intro _; with_unfolding_all rfl)))) | (k_here; (with_reducible show wpAny _ _ (exec (PySem.Stmt.Assign _ (PySem.Expr.ListComp _ [⟨_, _, [_], _⟩] _ _) _) _) _ _ _); k_dflt (refine' Assign_ListComp_dictT (by k_asm) (by exact rfl) (by with_unfolding_all rfl) (by exact rfl) (by decide) (by exact rfl) (by decide) (by exact rfl) (by exact rfl) (by exact rfl) ?_ (by (intro _; with_unfolding_all rfl))))) | ((with_reducible show wpAny _ _ (subscriptTail _ _ (Value.ref _) (Value.ref _)) _ _ _); first | (k_here; k_dflt (refine' slice_domK (by k_asm) (by k_asm) (by k_asm) (by walk_at "lc") (by k_mem) (by k_mem) (by k_is) (by k_is) (by omega) (by (intro i; exact ⟨_, by with_unfolding_all rfl⟩)) ?_); intro D' h' F' N' l1; (try k_lt l1); (try k_sweep))) | ((with_reducible show wpAny _ _ (exec (PySem.Stmt.While ..) _) _ _ _); first | (k_here; refine' While_once (by passes_own) ?_))) | walk1 | (dsimp only; walk1) | (leave1; walk_say "STEP leave1"; (try dsimp only)) | fail "no step"))
      try dsimp only
      refine seg_leaf (.ok (.ret .none)) (seg_quiet (wpAny_onRaise (wpAny_pure ?_)))
      try dsimp only
      refine seg_end (.ok (.ret .none)) ?_
      have hVr : V.reverse = us ++ [v] := by rw [hV2]; simp
      refine ⟨rfl, _, _, ds ++ [(a9, o9)], _, c3, rfl, e3, rfl, ?hS, ?hGS⟩
      (case hS => (refine ((?gN3 : News gb Lg _ _) (S, lstO (refsOf (ds ++ [(a9, o9)])) c3) ?gM3).1; (case gN3 => k_asm); (case gM3 => k_mem)))
      rw [hVr]
      refine (hG _ ?gB4 ?gT4).snoc ?gA ha9 hS9 hd9
      (case gB4 => exact Fr.keep (by k_asm))
      (case gT4 => (intro p hp; refine ((?gN4 : News gb Lg _ _) p ?gM4).1; (case gN4 => k_asm); (repeat (first | exact hp | refine List.Mem.tail _ ?_))))
      (case gA => (refine ((?gN5 : News gb Lg _ _) (a9, o9) ?gM5).1; (case gN5 => k_asm); (case gM5 => k_mem)))
    · rw [List.concat_eq_append] at hrem
      subst hrem
      have hr1 : rem'.length + 1 ≤ 8 := by rw [List.length_append] at hr; exact hr
      have hk2 : k = rem'.length + 1 := by rw [← hk]; simp
      subst hk2
      refine seg_stmt ?_
      (repeat' (first | (k_unfold; (try dsimp only)) | (k_end; kc_close) | (lge_end; k_here; first | ((with_reducible show OnceEnd ..); (unfold OnceEnd; dsimp only)) | ((with_reducible show SegSrc ..); (k_here; k_dflt (refine' ⟨_, _, _, _, _, rfl, by k_asm, by k_asm, by k_mem, ?_⟩); intro p' I' oI' h' tk' F' N' l1; (try k_lt l1); (try k_sweep))) | ((with_reducible show LCg.FinA ..); ((unfold LCg.FinA); intro D' h' tk' F' N' o1'; (have hOffNe := off1_ne o1'); clear o1'; (walk_at "k_clearNe"); (try simp only [List.nil_append, List.cons_append] at N'); (try dsimp only); (try k_sweep))) | ((with_reducible show LCg.CompEnd ..); (k_here; k_dflt (refine' compEnd_at1 (by k_asm) (by with_reducible assumption) (by (simp only [LCg.Off3, and_true]; assumption)) (by omega) (by omega) (by omega) (by k_mem) ?_))) | ((with_reducible show LCg.CompEnd ..); (k_here; k_dflt (refine' compEnd_at (by k_asm) (by with_reducible assumption) (by (simp only [LCg.Off3, and_true]; assumption)) (by k_mem) ?_))) | ((with_reducible show DSrcT ..); (k_here; k_dflt (refine' DSrcT.of (by exact rfl) (by k_asm) (by k_asm) (by k_mem) (by with_reducible assumption) (by with_reducible assumption) ?_); intro g')) | ((with_reducible show DSrc ..); (k_here; k_dflt (refine' DSrc.of (by exact rfl) (by k_asm) (by k_asm) (by k_mem) (by with_reducible assumption) (by with_reducible assumption) ?_); intro g'))) | (k_here; first | ((with_reducible show wpAny _ _ (delItem (Value.ref _) (Value.str _ _)) _ _ _); first | (k_here; k_dflt (refine' del_a1 (by k_asm) (by k_asm) (by k_updF) (by with_reducible assumption) ?_); intro h' o' F' N' hd'; (try dsimp only at N'))) | ((with_reducible show wpAny _ _ (setItem (Value.ref _) (Value.str _ _) _) _ _ _); first | (k_here; k_dflt (refine' set_a1 (by k_asm) (by k_asm) (by k_updF) (by with_reducible assumption) ?_); intro h' o' F' N' hd'; (try dsimp only at N')) | (k_here; k_dflt (refine' set_a0 (by k_asm) (by k_asm) (by k_updF) (by with_reducible assumption) ?_); intro h' o' F' N' hd'; (try dsimp only at N'))) | ((with_reducible show wpAny _ _ (truthy (Value.ref _)) _ _ _); first | (k_here; k_dflt (refine' truthy_nil (by k_asm) (by k_mem) ?_)) | (k_here; k_dflt (refine' truthy_one (by k_asm) (by k_mem) ?_)) | (k_here; k_dflt (refine' truthy_some (by k_asm) (by k_mem) (by omega) ?_))) | ((with_reducible show wpAny _ _ (call (Value.builtin "list.pop") _ _) _ _ _); first | (k_here; k_dflt (refine' pop_one (by k_asm) (by k_asm) (by k_upd) ?_); intro h' F' N'; (try k_sweep)) | (k_here; k_dflt (refine' pop_snoc (by k_asm) (by k_asm) (by k_upd) (by (rw [sizeLine_eq]; omega)) ?_); intro h' F' N'; (try k_sweep))) | ((with_reducible show wpAny _ _ (subscriptTail _ _ (Value.ref _) (Value.int _ _)) _ _ _); first | (k_here; k_dflt (refine' tup_last (by k_asm) (by k_mem) ?_ (by with_unfolding_all rfl) (by (intro _; with_unfolding_all rfl))))) | ((with_reducible show wpAny _ _ (subscriptTail _ _ (Value.ref _) (Value.str _ _)) _ _ _); first | (k_here; k_dflt (refine' dict_one (by k_asm) (by k_mem) (by with_reducible assumption) ?_ (by with_unfolding_all rfl)))) | ((with_reducible show wpAny _ _ (call (Value.builtin "list.sort") _ _) _ _ _); first | (k_here; k_dflt (refine' sort_one (by k_asm) (by k_asm) (by k_updF) ?_); intro h' c' F' N'; (try dsimp only at N'); (try k_sweep))) | ((with_reducible show wpAny _ _ (exec (PySem.Stmt.Assign ..) _) _ _ _); first | (k_here; (with_reducible show wpAny _ _ (exec (PySem.Stmt.Assign _ (PySem.Expr.ListComp _ [⟨_, _, [], _⟩] _ _) _) _) _ _ _); k_dflt (refine' Assign_ListComp_dict (by k_asm) (by exact rfl) (by with_unfolding_all rfl) (by exact rfl) (by decide) (by exact rfl) (by decide) (by exact rfl) (by exact rfl) (by exact rfl) ?_ (by (intro _; with_unfolding_all rfl)))) | (k_here; (with_reducible show wpAny _ _ (exec (PySem.Stmt.Assign _ (PySem.Expr.ListComp _ [⟨_, _, [_], _⟩] _ _) _) _) _ _ _); k_dflt (refine' Assign_ListComp_dictT (by k_asm) (by exact rfl) (by with_unfolding_all rfl) (by exact rfl) (by decide) (by exact rfl) (by decide) (by exact rfl) (by exact rfl) (by exact rfl) ?_ (by (intro _; with_unfolding_all rfl))))) | ((with_reducible show wpAny _ _ (subscriptTail _ _ (Value.ref _) (Value.ref _)) _ _ _); first | (k_here; k_dflt (refine' slice_domK (by k_asm) (by k_asm) (by k_asm) (by walk_at "lc") (by k_mem) (by k_mem) (by k_is) (by k_is) (by omega) (by (intro i; exact ⟨_, by with_unfolding_all rfl⟩)) ?_); intro D' h' F' N' l1; (try k_lt l1); (try k_sweep))) | ((with_reducible show wpAny _ _ (exec (PySem.Stmt.While ..) _) _ _ _); first | (k_here; refine' While_once (by passes_own) ?_))) | walk1 | (dsimp only; walk1) | (leave1; walk_say "STEP leave1"; (try dsimp only)) | fail "no step"))
      try dsimp only
      refine seg_stmt ?_
      (repeat' (first | (k_unfold; (try dsimp only)) | (k_end; kc_close) | (lge_end; k_here; first | ((with_reducible show OnceEnd ..); (unfold OnceEnd; dsimp only)) | ((with_reducible show SegSrc ..); (k_here; k_dflt (refine' ⟨_, _, _, _, _, rfl, by k_asm, by k_asm, by k_mem, ?_⟩); intro p' I' oI' h' tk' F' N' l1; (try k_lt l1); (try k_sweep))) | ((with_reducible show LCg.FinA ..); ((unfold LCg.FinA); intro D' h' tk' F' N' o1'; (have hOffNe := off1_ne o1'); clear o1'; (walk_at "k_clearNe"); (try simp only [List.nil_append, List.cons_append] at N'); (try dsimp only); (try k_sweep))) | ((with_reducible show LCg.CompEnd ..); (k_here; k_dflt (refine' compEnd_at1 (by k_asm) (by with_reducible assumption) (by (simp only [LCg.Off3, and_true]; assumption)) (by omega) (by omega) (by omega) (by k_mem) ?_))) | ((with_reducible show LCg.CompEnd ..); (k_here; k_dflt (refine' compEnd_at (by k_asm) (by with_reducible assumption) (by (simp only [LCg.Off3, and_true]; assumption)) (by k_mem) ?_))) | ((with_reducible show DSrcT ..); (k_here; k_dflt (refine' DSrcT.of (by exact rfl) (by k_asm) (by k_asm) (by k_mem) (by with_reducible assumption) (by with_reducible assumption) ?_); intro g')) | ((with_reducible show DSrc ..); (k_here; k_dflt (refine' DSrc.of (by exact rfl) (by k_asm) (by k_asm) (by k_mem) (by with_reducible assumption) (by with_reducible assumption) ?_); intro g'))) | (k_here; first | ((with_reducible show wpAny _ _ (delItem (Value.ref _) (Value.str _ _)) _ _ _); first | (k_here; k_dflt (refine' del_a1 (by k_asm) (by k_asm) (by k_updF) (by with_reducible assumption) ?_); intro h' o' F' N' hd'; (try dsimp only at N'))) | ((with_reducible show wpAny _ _ (setItem (Value.ref _) (Value.str _ _) _) _ _ _); first | (k_here; k_dflt (refine' set_a1 (by k_asm) (by k_asm) (by k_updF) (by with_reducible assumption) ?_); intro h' o' F' N' hd'; (try dsimp only at N')) | (k_here; k_dflt (refine' set_a0 (by k_asm) (by k_asm) (by k_updF) (by with_reducible assumption) ?_); intro h' o' F' N' hd'; (try dsimp only at N'))) | ((with_reducible show wpAny _ _ (truthy (Value.ref _)) _ _ _); first | (k_here; k_dflt (refine' truthy_nil (by k_asm) (by k_mem) ?_)) | (k_here; k_dflt (refine' truthy_one (by k_asm) (by k_mem) ?_)) | (k_here; k_dflt (refine' truthy_some (by k_asm) (by k_mem) (by omega) ?_))) | ((with_reducible show wpAny _ _ (call (Value.builtin "list.pop") _ _) _ _ _); first | (k_here; k_dflt (refine' pop_one (by k_asm) (by k_asm) (by k_upd) ?_); intro h' F' N'; (try k_sweep)) | (k_here; k_dflt (refine' pop_snoc (by k_asm) (by k_asm) (by k_upd) (by (rw [sizeLine_eq]; omega)) ?_); intro h' F' N'; (try k_sweep))) | ((with_reducible show wpAny _ _ (subscriptTail _ _ (Value.ref _) (Value.int _ _)) _ _ _); first | (k_here; k_dflt (refine' tup_last (by k_asm) (by k_mem) ?_ (by with_unfolding_all rfl) (by (intro _; with_unfolding_all rfl))))) | ((with_reducible show wpAny _ _ (subscriptTail _ _ (Value.ref _) (Value.str _ _)) _ _ _); first | (k_here; k_dflt (refine' dict_one (by k_asm) (by k_mem) (by with_reducible assumption) ?_ (by with_unfolding_all rfl)))) | ((with_reducible show wpAny _ _ (call (Value.builtin "list.sort") _ _) _ _ _); first | (k_here; k_dflt (refine' sort_one (by k_asm) (by k_asm) (by k_updF) ?_); intro h' c' F' N'; (try dsimp only at N'); (try k_sweep))) | ((with_reducible show wpAny _ _ (exec (PySem.Stmt.Assign ..) _) _ _ _); first | (k_here; (with_reducible show wpAny _ _ (exec (PySem.Stmt.Assign _ (PySem.Expr.ListComp _ [⟨_, _, [], _⟩] _ _) _) _) _ _ _); k_dflt (refine' Assign_ListComp_dict (by k_asm) (by exact rfl) (by with_unfolding_all rfl) (by exact rfl) (by decide) (by exact rfl) (by decide) (by exact rfl) (by exact rfl) (by exact rfl) ?_ (by (intro _; with_unfolding_all rfl)))) | (k_here; (with_reducible show wpAny _ _ (exec (PySem.Stmt.Assign _ (PySem.Expr.ListComp _ [⟨_, _, [_], _⟩] _ _) _) _) _ _ _); k_dflt (refine' Assign_ListComp_dictT (by k_asm) (by exact rfl) (by with_unfolding_all rfl) (by exact rfl) (by decide) (by exact rfl) (by decide) (by exact rfl) (by exact rfl) (by exact rfl) ?_ (by (intro _; with_unfolding_all rfl))))) | ((with_reducible show wpAny _ _ (subscriptTail _ _ (Value.ref _) (Value.ref _)) _ _ _); first | (k_here; k_dflt (refine' slice_domK (by k_asm) (by k_asm) (by k_asm) (by walk_at "lc") (by k_mem) (by k_mem) (by k_is) (by k_is) (by omega) (by (intro i; exact ⟨_, by with_unfolding_all rfl⟩)) ?_); intro D' h' F' N' l1; (try k_lt l1); (try k_sweep))) | ((with_reducible show wpAny _ _ (exec (PySem.Stmt.While ..) _) _ _ _); first | (k_here; refine' While_once (by passes_own) ?_))) | walk1 | (dsimp only; walk1) | (leave1; walk_say "STEP leave1"; (try dsimp only)) | fail "no step"))
      try dsimp only
      refine seg_execs_nil ?_
      try dsimp only
      refine seg_again rfl (IH _ _ _ rfl ?_)
      have hV3 : V = rem' ++ y :: (us ++ [v]).reverse := by rw [hV2]; simp
      refine' GenAt.of (rem := rem') (us := us ++ [v]) (ds := ds ++ [(a9, o9)]) (T := (a9, o9) :: T) rem'.length rfl e3 hV3 ?F ?mq ?N ?m2 ?m1 ?m3 ?m4 ?m6 ?m7 ?m8 ?m9 ?cV ?cA ?cC ?cD ?m5 ?n1 ?n2 ?n3 ?n4 ?n5 ?n6 ?mT ?da ?la ?l1 ?l2 ?l3 ?l4 ?l5 ?tS ?tV ?ta ?tq ?tvl ?hG
      (case F => k_asm)
      (case mq => exact rfl)
      (case N => k_asm)
      (case m2 => k_mem)
      (case m1 => k_mem)
      (case m3 => k_mem)
      (case m4 => k_mem)
      (case m6 => k_mem)
      (case m7 => k_mem)
      (case m8 => k_mem)
      (case m9 => k_mem)
      (case cV => with_reducible assumption)
      (case cA => with_reducible assumption)
      (case cC => first | with_reducible assumption | with_unfolding_all assumption)
      (case cD => first | with_reducible assumption | with_unfolding_all assumption)
      (case m5 => k_mem)
      (case n1 => k_mem)
      (case n2 => k_mem)
      (case n3 => k_mem)
      (case n4 => k_mem)
      (case n5 => k_mem)
      (case n6 => k_mem)
      (case da => with_reducible assumption)
      (case la => with_reducible assumption)
      (case l1 => (walk_at "k_lt2"))
      (case l2 => (walk_at "k_lt2"))
      (case l3 => (walk_at "k_lt2"))
      (case l4 => (walk_at "k_lt2"))
      (case l5 => (walk_at "k_lt2"))
      (case mT => (intro p hp; rcases List.mem_cons.mp hp with hp | hp; (subst hp; k_mem); (repeat (first | exact hp | refine List.Mem.tail _ ?_))))
      (case tS => exact offCons (tS _ (.head _)) (offCons (Nat.ne_of_gt (by omega)) fun p hp => tS p (.tail _ hp)))
      (case tV => exact offCons (tV _ (.head _)) (offCons (Nat.ne_of_gt (by omega)) fun p hp => tV p (.tail _ hp)))
      (case ta => exact offCons (ta _ (.head _)) (offCons (Nat.ne_of_gt (by omega)) fun p hp => ta p (.tail _ hp)))
      (case tq => exact offCons (tq _ (.head _)) (offCons (Nat.ne_of_gt (by omega)) fun p hp => tq p (.tail _ hp)))
      (case tvl => exact offCons (tvl _ (.head _)) (offCons (Nat.ne_of_gt (by omega)) fun p hp => tvl p (.tail _ hp)))
      (case hG => exact fun h b t => (hG h b fun p hp => t p (.tail _ hp)).snoc (t _ (.head _)) ha9 hS9 hd9)
  case first =>
    intro IH
    rcases List.eq_nil_or_concat V with hv | ⟨V', y, hv⟩
    · exact absurd (by rw [hv]; rfl) hV0
    rw [List.concat_eq_append] at hv
    subst hv
    have hlen : (V' ++ [y]).length = V'.length + 1 := by simp
    rw [hlen]
    have hV1 : V'.length + 1 ≤ 9 := by rw [List.length_append] at hV; exact hV
    refine seg_whileLoop ?_
    (repeat' (first | (k_unfold; (try dsimp only)) | (k_end; kc_close) | (lge_end; k_here; first | ((with_reducible show OnceEnd ..); (unfold OnceEnd; dsimp only)) | ((with_reducible show SegSrc ..); (k_here; k_dflt (refine' ⟨_, _, _, _, _, rfl, by k_asm, by k_asm, by k_mem, ?_⟩); intro p' I' oI' h' tk' F' N' l1; (try k_lt l1); (try k_sweep))) | ((with_reducible show LCg.FinA ..); ((unfold LCg.FinA); intro D' h' tk' F' N' o1'; (have hOffNe := off1_ne o1'); clear o1'; (walk_at "k_clearNe"); (try simp only [List.nil_append, List.cons_append] at N'); (try dsimp only); (try k_sweep))) | ((with_reducible show LCg.CompEnd ..); (k_here; k_dflt (refine' compEnd_at1 (by k_asm) (by with_reducible assumption) (by (simp only [LCg.Off3, and_true]; assumption)) (by omega) (by omega) (by omega) (by k_mem) ?_))) | ((with_reducible show LCg.CompEnd ..); (k_here; k_dflt (refine' compEnd_at (by k_asm) (by with_reducible assumption) (by (simp only [LCg.Off3, and_true]; assumption)) (by k_mem) ?_))) | ((with_reducible show DSrcT ..); (k_here; k_dflt (refine' DSrcT.of (by exact rfl) (by k_asm) (by k_asm) (by k_mem) (by with_reducible assumption) (by with_reducible assumption) ?_); intro g')) | ((with_reducible show DSrc ..); (k_here; k_dflt (refine' DSrc.of (by exact rfl) (by k_asm) (by k_asm) (by k_mem) (by with_reducible assumption) (by with_reducible assumption) ?_); intro g'))) | (k_here; first | ((with_reducible show wpAny _ _ (delItem (Value.ref _) (Value.str _ _)) _ _ _); first | (k_here; k_dflt (refine' del_a1 (by k_asm) (by k_asm) (by k_updF) (by with_reducible assumption) ?_); intro h' o' F' N' hd'; (try dsimp only at N'))) | ((with_reducible show wpAny _ _ (setItem (Value.ref _) (Value.str _ _) _) _ _ _); first | (k_here; k_dflt (refine' set_a1 (by k_asm) (by k_asm) (by k_updF) (by with_reducible assumption) ?_); intro h' o' F' N' hd'; (try dsimp only at N')) | (k_here; k_dflt (refine' set_a0 (by k_asm) (by k_asm) (by k_updF) (by with_reducible assumption) ?_); intro h' o' F' N' hd'; (try dsimp only at N'))) | ((with_reducible show wpAny _ _ (truthy (Value.ref _)) _ _ _); first | (k_here; k_dflt (refine' truthy_nil (by k_asm) (by k_mem) ?_)) | (k_here; k_dflt (refine' truthy_one (by k_asm) (by k_mem) ?_)) | (k_here; k_dflt (refine' truthy_some (by k_asm) (by k_mem) (by omega) ?_))) | ((with_reducible show wpAny _ _ (call (Value.builtin "list.pop") _ _) _ _ _); first | (k_here; k_dflt (refine' pop_one (by k_asm) (by k_asm) (by k_upd) ?_); intro h' F' N'; (try k_sweep)) | (k_here; k_dflt (refine' pop_snoc (by k_asm) (by k_asm) (by k_upd) (by (rw [sizeLine_eq]; omega)) ?_); intro h' F' N'; (try k_sweep))) | ((with_reducible show wpAny _ _ (subscriptTail _ _ (Value.ref _) (Value.int _ _)) _ _ _); first | (k_here; k_dflt (refine' tup_last (by k_asm) (by k_mem) ?_ (by with_unfolding_all rfl) (by (intro _; with_unfolding_all rfl))))) | ((with_reducible show wpAny _ _ (subscriptTail _ _ (Value.ref _) (Value.str _ _)) _ _ _); first | (k_here; k_dflt (refine' dict_one (by k_asm) (by k_mem) (by with_reducible assumption) ?_ (by with_unfolding_all rfl)))) | ((with_reducible show wpAny _ _ (call (Value.builtin "list.sort") _ _) _ _ _); first | (k_here; k_dflt (refine' sort_one (by k_asm) (by k_asm) (by k_updF) ?_); intro h' c' F' N'; (try dsimp only at N'); (try k_sweep))) | ((with_reducible show wpAny _ _ (exec (PySem.Stmt.Assign ..) _) _ _ _); first | (k_here; (with_reducible show wpAny _ _ (exec (PySem.Stmt.Assign _ (PySem.Expr.ListComp _ [⟨_, _, [], _⟩] _ _) _) _) _ _ _); k_dflt (refine' Assign_ListComp_dict (by k_asm) (by exact rfl) (by with_unfolding_all rfl) (by exact rfl) (by decide) (by exact rfl) (by decide) (by exact rfl) (by exact rfl) (by exact rfl) ?_ (by (intro _; with_unfolding_all rfl)))) | (k_here; (with_reducible show wpAny _ _ (exec (PySem.Stmt.Assign _ (PySem.Expr.ListComp _ [⟨_, _, [_], _⟩] _ _) _) _) _ _ _); k_dflt (refine' Assign_ListComp_dictT (by k_asm) (by exact rfl) (by with_unfolding_all rfl) (by exact rfl) (by decide) (by exact rfl) (by decide) (by exact rfl) (by exact rfl) (by exact rfl) ?_ (by (intro _; with_unfolding_all rfl))))) | ((with_reducible show wpAny _ _ (subscriptTail _ _ (Value.ref _) (Value.ref _)) _ _ _); first | (k_here; k_dflt (refine' slice_domK (by k_asm) (by k_asm) (by k_asm) (by walk_at "lc") (by k_mem) (by k_mem) (by k_is) (by k_is) (by omega) (by (intro i; exact ⟨_, by with_unfolding_all rfl⟩)) ?_); intro D' h' F' N' l1; (try k_lt l1); (try k_sweep))) | ((with_reducible show wpAny _ _ (exec (PySem.Stmt.While ..) _) _ _ _); first | (k_here; refine' While_once (by passes_own) ?_))) | walk1 | (dsimp only; walk1) | (leave1; walk_say "STEP leave1"; (try dsimp only)) | fail "no step"))
    refine seg_stmt ?_
    (repeat' (first | (k_unfold; (try dsimp only)) | (k_end; kc_close) | (lge_end; k_here; first | ((with_reducible show OnceEnd ..); (unfold OnceEnd; dsimp only)) | ((with_reducible show SegSrc ..); (k_here; k_dflt (refine' ⟨_, _, _, _, _, rfl, by k_asm, by k_asm, by k_mem, ?_⟩); intro p' I' oI' h' tk' F' N' l1; (try k_lt l1); (try k_sweep))) | ((with_reducible show LCg.FinA ..); ((unfold LCg.FinA); intro D' h' tk' F' N' o1'; (have hOffNe := off1_ne o1'); clear o1'; (walk_at "k_clearNe"); (try simp only [List.nil_append, List.cons_append] at N'); (try dsimp only); (try k_sweep))) | ((with_reducible show LCg.CompEnd ..); (k_here; k_dflt (refine' compEnd_at1 (by k_asm) (by with_reducible assumption) (by (simp only [LCg.Off3, and_true]; assumption)) (by omega) (by omega) (by omega) (by k_mem) ?_))) | ((with_reducible show LCg.CompEnd ..); (k_here; k_dflt (refine' compEnd_at (by k_asm) (by with_reducible assumption) (by (simp only [LCg.Off3, and_true]; assumption)) (by k_mem) ?_))) | ((with_reducible show DSrcT ..); (k_here; k_dflt (refine' DSrcT.of (by exact rfl) (by k_asm) (by k_asm) (by k_mem) (by with_reducible assumption) (by with_reducible assumption) ?_); intro g')) | ((with_reducible show DSrc ..); (k_here; k_dflt (refine' DSrc.of (by exact rfl) (by k_asm) (by k_asm) (by k_mem) (by with_reducible assumption) (by with_reducible assumption) ?_); intro g'))) | (k_here; first | ((with_reducible show wpAny _ _ (delItem (Value.ref _) (Value.str _ _)) _ _ _); first | (k_here; k_dflt (refine' del_a1 (by k_asm) (by k_asm) (by k_updF) (by with_reducible assumption) ?_); intro h' o' F' N' hd'; (try dsimp only at N'))) | ((with_reducible show wpAny _ _ (setItem (Value.ref _) (Value.str _ _) _) _ _ _); first | (k_here; k_dflt (refine' set_a1 (by k_asm) (by k_asm) (by k_updF) (by with_reducible assumption) ?_); intro h' o' F' N' hd'; (try dsimp only at N')) | (k_here; k_dflt (refine' set_a0 (by k_asm) (by k_asm) (by k_updF) (by with_reducible assumption) ?_); intro h' o' F' N' hd'; (try dsimp only at N'))) | ((with_reducible show wpAny _ _ (truthy (Value.ref _)) _ _ _); first | (k_here; k_dflt (refine' truthy_nil (by k_asm) (by k_mem) ?_)) | (k_here; k_dflt (refine' truthy_one (by k_asm) (by k_mem) ?_)) | (k_here; k_dflt (refine' truthy_some (by k_asm) (by k_mem) (by omega) ?_))) | ((with_reducible show wpAny _ _ (call (Value.builtin "list.pop") _ _) _ _ _); first | (k_here; k_dflt (refine' pop_one (by k_asm) (by k_asm) (by k_upd) ?_); intro h' F' N'; (try k_sweep)) | (k_here; k_dflt (refine' pop_snoc (by k_asm) (by k_asm) (by k_upd) (by (rw [sizeLine_eq]; omega)) ?_); intro h' F' N'; (try k_sweep))) | ((with_reducible show wpAny _ _ (subscriptTail _ _ (Value.ref _) (Value.int _ _)) _ _ _); first | (k_here; k_dflt (refine' tup_last (by k_asm) (by k_mem) ?_ (by with_unfolding_all rfl) (by (intro _; with_unfolding_all rfl))))) | ((with_reducible show wpAny _ _ (subscriptTail _ _ (Value.ref _) (Value.str _ _)) _ _ _); first | (k_here; k_dflt (refine' dict_one (by k_asm) (by k_mem) (by with_reducible assumption) ?_ (by with_unfolding_all rfl)))) | ((with_reducible show wpAny _ _ (call (Value.builtin "list.sort") _ _) _ _ _); first | (k_here; k_dflt (refine' sort_one (by k_asm) (by k_asm) (by k_updF) ?_); intro h' c' F' N'; (try dsimp only at N'); (try k_sweep))) | ((with_reducible show wpAny _ _ (exec (PySem.Stmt.Assign ..) _) _ _ _); first | (k_here; (with_reducible show wpAny _ _ (exec (PySem.Stmt.Assign _ (PySem.Expr.ListComp _ [⟨_, _, [], _⟩] _ _) _) _) _ _ _); k_dflt (refine' Assign_ListComp_dict (by k_asm) (by exact rfl) (by with_unfolding_all rfl) (by exact rfl) (by decide) (by exact rfl) (by decide) (by exact rfl) (by exact rfl) (by exact rfl) ?_ (by (intro _; with_unfolding_all rfl)))) | (k_here; (with_reducible show wpAny _ _ (exec (PySem.Stmt.Assign _ (PySem.Expr.ListComp _ [⟨_, _, [_], _⟩] _ _) _) _) _ _ _); k_dflt (refine' Assign_ListComp_dictT (by k_asm) (by exact rfl) (by with_unfolding_all rfl) (by exact rfl) (by decide) (by exact rfl) (by decide) (by exact rfl) (by exact rfl) (by exact rfl) ?_ (by (intro _; with_unfolding_all rfl))))) | ((with_reducible show wpAny _ _ (subscriptTail _ _ (Value.ref _) (Value.ref _)) _ _ _); first | (k_here; k_dflt (refine' slice_domK (by k_asm) (by k_asm) (by k_asm) (by walk_at "lc") (by k_mem) (by k_mem) (by k_is) (by k_is) (by omega) (by (intro i; exact ⟨_, by with_unfolding_all rfl⟩)) ?_); intro D' h' F' N' l1; (try k_lt l1); (try k_sweep))) | ((with_reducible show wpAny _ _ (exec (PySem.Stmt.While ..) _) _ _ _); first | (k_here; refine' While_once (by passes_own) ?_))) | walk1 | (dsimp only; walk1) | (leave1; walk_say "STEP leave1"; (try dsimp only)) | fail "no step"))
    refine seg_stmt ?_
    (repeat' (first | (k_unfold; (try dsimp only)) | (k_end; kc_close) | (lge_end; k_here; first | ((with_reducible show OnceEnd ..); (unfold OnceEnd; dsimp only)) | ((with_reducible show SegSrc ..); (k_here; k_dflt (refine' ⟨_, _, _, _, _, rfl, by k_asm, by k_asm, by k_mem, ?_⟩); intro p' I' oI' h' tk' F' N' l1; (try k_lt l1); (try k_sweep))) | ((with_reducible show LCg.FinA ..); ((unfold LCg.FinA); intro D' h' tk' F' N' o1'; (have hOffNe := off1_ne o1'); clear o1'; (walk_at "k_clearNe"); (try simp only [List.nil_append, List.cons_append] at N'); (try dsimp only); (try k_sweep))) | ((with_reducible show LCg.CompEnd ..); (k_here; k_dflt (refine' compEnd_at1 (by k_asm) (by with_reducible assumption) (by (simp only [LCg.Off3, and_true]; assumption)) (by omega) (by omega) (by omega) (by k_mem) ?_))) | ((with_reducible show LCg.CompEnd ..); (k_here; k_dflt (refine' compEnd_at (by k_asm) (by with_reducible assumption) (by (simp only [LCg.Off3, and_true]; assumption)) (by k_mem) ?_))) | ((with_reducible show DSrcT ..); (k_here; k_dflt (refine' DSrcT.of (by exact rfl) (by k_asm) (by k_asm) (by k_mem) (by with_reducible assumption) (by with_reducible assumption) ?_); intro g')) | ((with_reducible show DSrc ..); (k_here; k_dflt (refine' DSrc.of (by exact rfl) (by k_asm) (by k_asm) (by k_mem) (by with_reducible assumption) (by with_reducible assumption) ?_); intro g'))) | (k_here; first | ((with_reducible show wpAny _ _ (delItem (Value.ref _) (Value.str _ _)) _ _ _); first | (k_here; k_dflt (refine' del_a1 (by k_asm) (by k_asm) (by k_updF) (by with_reducible assumption) ?_); intro h' o' F' N' hd'; (try dsimp only at N'))) | ((with_reducible show wpAny _ _ (setItem (Value.ref _) (Value.str _ _) _) _ _ _); first | (k_here; k_dflt (refine' set_a1 (by k_asm) (by k_asm) (by k_updF) (by with_reducible assumption) ?_); intro h' o' F' N' hd'; (try dsimp only at N')) | (k_here; k_dflt (refine' set_a0 (by k_asm) (by k_asm) (by k_updF) (by with_reducible assumption) ?_); intro h' o' F' N' hd'; (try dsimp only at N'))) | ((with_reducible show wpAny _ _ (truthy (Value.ref _)) _ _ _); first | (k_here; k_dflt (refine' truthy_nil (by k_asm) (by k_mem) ?_)) | (k_here; k_dflt (refine' truthy_one (by k_asm) (by k_mem) ?_)) | (k_here; k_dflt (refine' truthy_some (by k_asm) (by k_mem) (by omega) ?_))) | ((with_reducible show wpAny _ _ (call (Value.builtin "list.pop") _ _) _ _ _); first | (k_here; k_dflt (refine' pop_one (by k_asm) (by k_asm) (by k_upd) ?_); intro h' F' N'; (try k_sweep)) | (k_here; k_dflt (refine' pop_snoc (by k_asm) (by k_asm) (by k_upd) (by (rw [sizeLine_eq]; omega)) ?_); intro h' F' N'; (try k_sweep))) | ((with_reducible show wpAny _ _ (subscriptTail _ _ (Value.ref _) (Value.int _ _)) _ _ _); first | (k_here; k_dflt (refine' tup_last (by k_asm) (by k_mem) ?_ (by with_unfolding_all rfl) (by (intro _; with_unfolding_all rfl))))) | ((with_reducible show wpAny _ _ (subscriptTail _ _ (Value.ref _) (Value.str _ _)) _ _ _); first | (k_here; k_dflt (refine' dict_one (by k_asm) (by k_mem) (by with_reducible assumption) ?_ (by with_unfolding_all rfl)))) | ((with_reducible show wpAny _ _ (call (Value.builtin "list.sort") _ _) _ _ _); first | (k_here; k_dflt (refine' sort_one (by k_asm) (by k_asm) (by k_updF) ?_); intro h' c' F' N'; (try dsimp only at N'); (try k_sweep))) | ((with_reducible show wpAny _ _ (exec (PySem.Stmt.Assign ..) _) _ _ _); first | (k_here; (with_reducible show wpAny _ _ (exec (PySem.Stmt.Assign _ (PySem.Expr.ListComp _ [⟨_, _, [], _⟩] _ _) _) _) _ _ _); k_dflt (refine' Assign_ListComp_dict (by k_asm) (by exact rfl) (by with_unfolding_all rfl) (by exact rfl) (by decide) (by exact rfl) (by decide) (by exact rfl) (by exact rfl) (by exact rfl) ?_ (by (intro _; with_unfolding_all rfl)))) | (k_here; (with_reducible show wpAny _ _ (exec (PySem.Stmt.Assign _ (PySem.Expr.ListComp _ [⟨_, _, [_], _⟩] _ _) _) _) _ _ _); k_dflt (refine' Assign_ListComp_dictT (by k_asm) (by exact rfl) (by with_unfolding_all rfl) (by exact rfl) (by decide) (by exact rfl) (by decide) (by exact rfl) (by exact rfl) (by exact rfl) ?_ (by (intro _; with_unfolding_all rfl))))) | ((with_reducible show wpAny _ _ (subscriptTail _ _ (Value.ref _) (Value.ref _)) _ _ _); first | (k_here; k_dflt (refine' slice_domK (by k_asm) (by k_asm) (by k_asm) (by walk_at "lc") (by k_mem) (by k_mem) (by k_is) (by k_is) (by omega) (by (intro i; exact ⟨_, by with_unfolding_all rfl⟩)) ?_); intro D' h' F' N' l1; (try k_lt l1); (try k_sweep))) | ((with_reducible show wpAny _ _ (exec (PySem.Stmt.While ..) _) _ _ _); first | (k_here; refine' While_once (by passes_own) ?_))) | walk1 | (dsimp only; walk1) | (leave1; walk_say "STEP leave1"; (try dsimp only)) | fail "no step"))
    refine seg_execs_cons (seg_For1 (h₀ := gb) (L := Lg) ?hsZ ?hhZ ?srcZ ?htZ)
    (case hsZ => intro _; with_unfolding_all rfl)
    (case hhZ => intro _ _; rfl)
    (case htZ => intro _ _; rfl)
    (repeat' (first | (k_unfold; (try dsimp only)) | (k_end; kc_close) | (lge_end; k_here; first | ((with_reducible show OnceEnd ..); (unfold OnceEnd; dsimp only)) | ((with_reducible show SegSrc ..); (k_here; k_dflt (refine' ⟨_, _, _, _, _, rfl, by k_asm, by k_asm, by k_mem, ?_⟩); intro p' I' oI' h' tk' F' N' l1; (try k_lt l1); (try k_sweep))) | ((with_reducible show LCg.FinA ..); ((unfold LCg.FinA); intro D' h' tk' F' N' o1'; (have hOffNe := off1_ne o1'); clear o1'; (walk_at "k_clearNe"); (try simp only [List.nil_append, List.cons_append] at N'); (try dsimp only); (try k_sweep))) | ((with_reducible show LCg.CompEnd ..); (k_here; k_dflt (refine' compEnd_at1 (by k_asm) (by with_reducible assumption) (by (simp only [LCg.Off3, and_true]; assumption)) (by omega) (by omega) (by omega) (by k_mem) ?_))) | ((with_reducible show LCg.CompEnd ..); (k_here; k_dflt (refine' compEnd_at (by k_asm) (by with_reducible assumption) (by (simp only [LCg.Off3, and_true]; assumption)) (by k_mem) ?_))) | ((with_reducible show DSrcT ..); (k_here; k_dflt (refine' DSrcT.of (by exact rfl) (by k_asm) (by k_asm) (by k_mem) (by with_reducible assumption) (by with_reducible assumption) ?_); intro g')) | ((with_reducible show DSrc ..); (k_here; k_dflt (refine' DSrc.of (by exact rfl) (by k_asm) (by k_asm) (by k_mem) (by with_reducible assumption) (by with_reducible assumption) ?_); intro g'))) | (k_here; first | ((with_reducible show wpAny _ _ (delItem (Value.ref _) (Value.str _ _)) _ _ _); first | (k_here; k_dflt (refine' del_a1 (by k_asm) (by k_asm) (by k_updF) (by with_reducible assumption) ?_); intro h' o' F' N' hd'; (try dsimp only at N'))) | ((with_reducible show wpAny _ _ (setItem (Value.ref _) (Value.str _ _) _) _ _ _); first | (k_here; k_dflt (refine' set_a1 (by k_asm) (by k_asm) (by k_updF) (by with_reducible assumption) ?_); intro h' o' F' N' hd'; (try dsimp only at N')) | (k_here; k_dflt (refine' set_a0 (by k_asm) (by k_asm) (by k_updF) (by with_reducible assumption) ?_); intro h' o' F' N' hd'; (try dsimp only at N'))) | ((with_reducible show wpAny _ _ (truthy (Value.ref _)) _ _ _); first | (k_here; k_dflt (refine' truthy_nil (by k_asm) (by k_mem) ?_)) | (k_here; k_dflt (refine' truthy_one (by k_asm) (by k_mem) ?_)) | (k_here; k_dflt (refine' truthy_some (by k_asm) (by k_mem) (by omega) ?_))) | ((with_reducible show wpAny _ _ (call (Value.builtin "list.pop") _ _) _ _ _); first | (k_here; k_dflt (refine' pop_one (by k_asm) (by k_asm) (by k_upd) ?_); intro h' F' N'; (try k_sweep)) | (k_here; k_dflt (refine' pop_snoc (by k_asm) (by k_asm) (by k_upd) (by (rw [sizeLine_eq]; omega)) ?_); intro h' F' N'; (try k_sweep))) | ((with_reducible show wpAny _ _ (subscriptTail _ _ (Value.ref _) (Value.int _ _)) _ _ _); first | (k_here; k_dflt (refine' tup_last (by k_asm) (by k_mem) ?_ (by with_unfolding_all rfl) (by (intro _; with_unfolding_all rfl))))) | ((with_reducible show wpAny _ _ (subscriptTail _ _ (Value.ref _) (Value.str _ _)) _ _ _); first | (k_here; k_dflt (refine' dict_one (by k_asm) (by k_mem) (by with_reducible assumption) ?_ (by with_unfolding_all rfl)))) | ((with_reducible show wpAny _ _ (call (Value.builtin "list.sort") _ _) _ _ _); first | (k_here; k_dflt (refine' sort_one (by k_asm) (by k_asm) (by k_updF) ?_); intro h' c' F' N'; (try dsimp only at N'); (try k_sweep))) | ((with_reducible show wpAny _ _ (exec (PySem.Stmt.Assign ..) _) _ _ _); first | (k_here; (with_reducible show wpAny _ _ (exec (PySem.Stmt.Assign _ (PySem.Expr.ListComp _ [⟨_, _, [], _⟩] _ _) _) _) _ _ _); k_dflt (refine' Assign_ListComp_dict (by k_asm) (by exact rfl) (by with_unfolding_all rfl) (by exact rfl) (by decide) (by exact rfl) (by decide) (by exact rfl) (by exact rfl) (by exact rfl) ?_ (by (intro _; with_unfolding_all rfl)))) | (k_here; (with_reducible show wpAny _ _ (exec (PySem.Stmt.Assign _ (PySem.Expr.ListComp _ [⟨_, _, [_], _⟩] _ _) _) _) _ _ _); k_dflt (refine' Assign_ListComp_dictT (by k_asm) (by exact rfl) (by with_unfolding_all rfl) (by exact rfl) (by decide) (by exact rfl) (by decide) (by exact rfl) (by exact rfl) (by exact rfl) ?_ (by (intro _; with_unfolding_all rfl))))) | ((with_reducible show wpAny _ _ (subscriptTail _ _ (Value.ref _) (Value.ref _)) _ _ _); first | (k_here; k_dflt (refine' slice_domK (by k_asm) (by k_asm) (by k_asm) (by walk_at "lc") (by k_mem) (by k_mem) (by k_is) (by k_is) (by omega) (by (intro i; exact ⟨_, by with_unfolding_all rfl⟩)) ?_); intro D' h' F' N' l1; (try k_lt l1); (try k_sweep))) | ((with_reducible show wpAny _ _ (exec (PySem.Stmt.While ..) _) _ _ _); first | (k_here; refine' While_once (by passes_own) ?_))) | walk1 | (dsimp only; walk1) | (leave1; walk_say "STEP leave1"; (try dsimp only)) | fail "no step"))
    unfold SegOne
    try dsimp only
    refine seg_leaf _ (seg_quiet (wpAny_onRaise (wpAny_pure ?_)))
    try dsimp only
    refine seg_stmt ?_
    (repeat' (first | (k_unfold; (try dsimp only)) | (k_end; kc_close) | (lge_end; k_here; first | ((with_reducible show OnceEnd ..); (unfold OnceEnd; dsimp only)) | ((with_reducible show SegSrc ..); (k_here; k_dflt (refine' ⟨_, _, _, _, _, rfl, by k_asm, by k_asm, by k_mem, ?_⟩); intro p' I' oI' h' tk' F' N' l1; (try k_lt l1); (try k_sweep))) | ((with_reducible show LCg.FinA ..); ((unfold LCg.FinA); intro D' h' tk' F' N' o1'; (have hOffNe := off1_ne o1'); clear o1'; (walk_at "k_clearNe"); (try simp only [List.nil_append, List.cons_append] at N'); (try dsimp only); (try k_sweep))) | ((with_reducible show LCg.CompEnd ..); (k_here; k_dflt (refine' compEnd_at1 (by k_asm) (by with_reducible assumption) (by (simp only [LCg.Off3, and_true]; assumption)) (by omega) (by omega) (by omega) (by k_mem) ?_))) | ((with_reducible show LCg.CompEnd ..); (k_here; k_dflt (refine' compEnd_at (by k_asm) (by with_reducible assumption) (by (simp only [LCg.Off3, and_true]; assumption)) (by k_mem) ?_))) | ((with_reducible show DSrcT ..); (k_here; k_dflt (refine' DSrcT.of (by exact rfl) (by k_asm) (by k_asm) (by k_mem) (by with_reducible assumption) (by with_reducible assumption) ?_); intro g')) | ((with_reducible show DSrc ..); (k_here; k_dflt (refine' DSrc.of (by exact rfl) (by k_asm) (by k_asm) (by k_mem) (by with_reducible assumption) (by with_reducible assumption) ?_); intro g'))) | (k_here; first | ((with_reducible show wpAny _ _ (delItem (Value.ref _) (Value.str _ _)) _ _ _); first | (k_here; k_dflt (refine' del_a1 (by k_asm) (by k_asm) (by k_updF) (by with_reducible assumption) ?_); intro h' o' F' N' hd'; (try dsimp only at N'))) | ((with_reducible show wpAny _ _ (setItem (Value.ref _) (Value.str _ _) _) _ _ _); first | (k_here; k_dflt (refine' set_a1 (by k_asm) (by k_asm) (by k_updF) (by with_reducible assumption) ?_); intro h' o' F' N' hd'; (try dsimp only at N')) | (k_here; k_dflt (refine' set_a0 (by k_asm) (by k_asm) (by k_updF) (by with_reducible assumption) ?_); intro h' o' F' N' hd'; (try dsimp only at N'))) | ((with_reducible show wpAny _ _ (truthy (Value.ref _)) _ _ _); first | (k_here; k_dflt (refine' truthy_nil (by k_asm) (by k_mem) ?_)) | (k_here; k_dflt (refine' truthy_one (by k_asm) (by k_mem) ?_)) | (k_here; k_dflt (refine' truthy_some (by k_asm) (by k_mem) (by omega) ?_))) | ((with_reducible show wpAny _ _ (call (Value.builtin "list.pop") _ _) _ _ _); first | (k_here; k_dflt (refine' pop_one (by k_asm) (by k_asm) (by k_upd) ?_); intro h' F' N'; (try k_sweep)) | (k_here; k_dflt (refine' pop_snoc (by k_asm) (by k_asm) (by k_upd) (by (rw [sizeLine_eq]; omega)) ?_); intro h' F' N'; (try k_sweep))) | ((with_reducible show wpAny _ _ (subscriptTail _ _ (Value.ref _) (Value.int _ _)) _ _ _); first | (k_here; k_dflt (refine' tup_last (by k_asm) (by k_mem) ?_ (by with_unfolding_all rfl) (by (intro _; with_unfolding_all rfl))))) | ((with_reducible show wpAny _ _ (subscriptTail _ _ (Value.ref _) (Value.str _ _)) _ _ _); first | (k_here; k_dflt (refine' dict_one (by k_asm) (by k_mem) (by with_reducible assumption) ?_ (by with_unfolding_all rfl)))) | ((with_reducible show wpAny _ _ (call (Value.builtin "list.sort") _ _) _ _ _); first | (k_here; k_dflt (refine' sort_one (by k_asm) (by k_asm) (by k_updF) ?_); intro h' c' F' N'; (try dsimp only at N'); (try k_sweep))) | ((with_reducible show wpAny _ _ (exec (PySem.Stmt.Assign ..) _) _ _ _); first | (k_here; (with_reducible show wpAny _ _ (exec (PySem.Stmt.Assign _ (PySem.Expr.ListComp _ [⟨_, _, [], _⟩] _ _) _) _) _ _ _); k_dflt (refine' Assign_ListComp_dict (by k_asm) (by exact rfl) (by with_unfolding_all rfl) (by exact rfl) (by decide) (by exact rfl) (by decide) (by exact rfl) (by exact rfl) (by exact rfl) ?_ (by (intro _; with_unfolding_all rfl)))) | (k_here; (with_reducible show wpAny _ _ (exec (PySem.Stmt.Assign _ (PySem.Expr.ListComp _ [⟨_, _, [_], _⟩] _ _) _) _) _ _ _); k_dflt (refine' Assign_ListComp_dictT (by k_asm) (by exact rfl) (by with_unfolding_all rfl) (by exact rfl) (by decide) (by exact rfl) (by decide) (by exact rfl) (by exact rfl) (by exact rfl) ?_ (by (intro _; with_unfolding_all rfl))))) | ((with_reducible show wpAny _ _ (subscriptTail _ _ (Value.ref _) (Value.ref _)) _ _ _); first | (k_here; k_dflt (refine' slice_domK (by k_asm) (by k_asm) (by k_asm) (by walk_at "lc") (by k_mem) (by k_mem) (by k_is) (by k_is) (by omega) (by (intro i; exact ⟨_, by with_unfolding_all rfl⟩)) ?_); intro D' h' F' N' l1; (try k_lt l1); (try k_sweep))) | ((with_reducible show wpAny _ _ (exec (PySem.Stmt.While ..) _) _ _ _); first | (k_here; refine' While_once (by passes_own) ?_))) | walk1 | (dsimp only; walk1) | (leave1; walk_say "STEP leave1"; (try dsimp only)) | fail "no step"))
    try dsimp only
    refine seg_stmt ?_
    (repeat' (first | (k_unfold; (try dsimp only)) | (k_end; kc_close) | (lge_end; k_here; first | ((with_reducible show OnceEnd ..); (unfold OnceEnd; dsimp only)) | ((with_reducible show SegSrc ..); (k_here; k_dflt (refine' ⟨_, _, _, _, _, rfl, by k_asm, by k_asm, by k_mem, ?_⟩); intro p' I' oI' h' tk' F' N' l1; (try k_lt l1); (try k_sweep))) | ((with_reducible show LCg.FinA ..); ((unfold LCg.FinA); intro D' h' tk' F' N' o1'; (have hOffNe := off1_ne o1'); clear o1'; (walk_at "k_clearNe"); (try simp only [List.nil_append, List.cons_append] at N'); (try dsimp only); (try k_sweep))) | ((with_reducible show LCg.CompEnd ..); (k_here; k_dflt (refine' compEnd_at1 (by k_asm) (by with_reducible assumption) (by (simp only [LCg.Off3, and_true]; assumption)) (by omega) (by omega) (by omega) (by k_mem) ?_))) | ((with_reducible show LCg.CompEnd ..); (k_here; k_dflt (refine' compEnd_at (by k_asm) (by with_reducible assumption) (by (simp only [LCg.Off3, and_true]; assumption)) (by k_mem) ?_))) | ((with_reducible show DSrcT ..); (k_here; k_dflt (refine' DSrcT.of (by exact rfl) (by k_asm) (by k_asm) (by k_mem) (by with_reducible assumption) (by with_reducible assumption) ?_); intro g')) | ((with_reducible show DSrc ..); (k_here; k_dflt (refine' DSrc.of (by exact rfl) (by k_asm) (by k_asm) (by k_mem) (by with_reducible assumption) (by with_reducible assumption) ?_); intro g'))) | (k_here; first | ((with_reducible show wpAny _ _ (delItem (Value.ref _) (Value.str _ _)) _ _ _); first | (k_here; k_dflt (refine' del_a1 (by k_asm) (by k_asm) (by k_updF) (by with_reducible assumption) ?_); intro h' o' F' N' hd'; (try dsimp only at N'))) | ((with_reducible show wpAny _ _ (setItem (Value.ref _) (Value.str _ _) _) _ _ _); first | (k_here; k_dflt (refine' set_a1 (by k_asm) (by k_asm) (by k_updF) (by with_reducible assumption) ?_); intro h' o' F' N' hd'; (try dsimp only at N')) | (k_here; k_dflt (refine' set_a0 (by k_asm) (by k_asm) (by k_updF) (by with_reducible assumption) ?_); intro h' o' F' N' hd'; (try dsimp only at N'))) | ((with_reducible show wpAny _ _ (truthy (Value.ref _)) _ _ _); first | (k_here; k_dflt (refine' truthy_nil (by k_asm) (by k_mem) ?_)) | (k_here; k_dflt (refine' truthy_one (by k_asm) (by k_mem) ?_)) | (k_here; k_dflt (refine' truthy_some (by k_asm) (by k_mem) (by omega) ?_))) | ((with_reducible show wpAny _ _ (call (Value.builtin "list.pop") _ _) _ _ _); first | (k_here; k_dflt (refine' pop_one (by k_asm) (by k_asm) (by k_upd) ?_); intro h' F' N'; (try k_sweep)) | (k_here; k_dflt (refine' pop_snoc (by k_asm) (by k_asm) (by k_upd) (by (rw [sizeLine_eq]; omega)) ?_); intro h' F' N'; (try k_sweep))) | ((with_reducible show wpAny _ _ (subscriptTail _ _ (Value.ref _) (Value.int _ _)) _ _ _); first | (k_here; k_dflt (refine' tup_last (by k_asm) (by k_mem) ?_ (by with_unfolding_all rfl) (by (intro _; with_unfolding_all rfl))))) | ((with_reducible show wpAny _ _ (subscriptTail _ _ (Value.ref _) (Value.str _ _)) _ _ _); first | (k_here; k_dflt (refine' dict_one (by k_asm) (by k_mem) (by with_reducible assumption) ?_ (by with_unfolding_all rfl)))) | ((with_reducible show wpAny _ _ (call (Value.builtin "list.sort") _ _) _ _ _); first | (k_here; k_dflt (refine' sort_one (by k_asm) (by k_asm) (by k_updF) ?_); intro h' c' F' N'; (try dsimp only at N'); (try k_sweep))) | ((with_reducible show wpAny _ _ (exec (PySem.Stmt.Assign ..) _) _ _ _); first | (k_here; (with_reducible show wpAny _ _ (exec (PySem.Stmt.Assign _ (PySem.Expr.ListComp _ [⟨_, _, [], _⟩] _ _) _) _) _ _ _); k_dflt (refine' Assign_ListComp_dict (by k_asm) (by exact rfl) (by with_unfolding_all rfl) (by exact rfl) (by decide) (by exact rfl) (by decide) (by exact rfl) (by exact rfl) (by exact rfl) ?_ (by (intro _; with_unfolding_all rfl)))) | (k_here; (with_reducible show wpAny _ _ (exec (PySem.Stmt.Assign _ (PySem.Expr.ListComp _ [⟨_, _, [_], _⟩] _ _) _) _) _ _ _); k_dflt (refine' Assign_ListComp_dictT (by k_asm) (by exact rfl) (by with_unfolding_all rfl) (by exact rfl) (by decide) (by exact rfl) (by decide) (by exact rfl) (by exact rfl) (by exact rfl) ?_ (by (intro _; with_unfolding_all rfl))))) | ((with_reducible show wpAny _ _ (subscriptTail _ _ (Value.ref _) (Value.ref _)) _ _ _); first | (k_here; k_dflt (refine' slice_domK (by k_asm) (by k_asm) (by k_asm) (by walk_at "lc") (by k_mem) (by k_mem) (by k_is) (by k_is) (by omega) (by (intro i; exact ⟨_, by with_unfolding_all rfl⟩)) ?_); intro D' h' F' N' l1; (try k_lt l1); (try k_sweep))) | ((with_reducible show wpAny _ _ (exec (PySem.Stmt.While ..) _) _ _ _); first | (k_here; refine' While_once (by passes_own) ?_))) | walk1 | (dsimp only; walk1) | (leave1; walk_say "STEP leave1"; (try dsimp only)) | fail "no step"))
    try dsimp only
    refine seg_execs_nil ?_
    try dsimp only
    refine seg_again rfl (IH _ _ _ ?_)
    refine' GenAt.of (rem := V') (us := []) (ds := []) (T := (I, oI) :: rest) V'.length rfl eS rfl ?FZ ?mqZ ?NZ ?m2Z ?m1Z ?m3Z ?m4Z ?m6Z ?m7Z ?m8Z ?m9Z ?cVZ ?cAZ ?cCZ ?cDZ ?m5Z ?n1Z ?n2Z ?n3Z ?n4Z ?n5Z ?n6Z ?mTZ ?daZ ?laZ ?l1Z ?l2Z ?l3Z ?l4Z ?l5Z ?tSZ ?tVZ ?taZ ?tqZ ?tvlZ ?hGZ
    (case FZ => k_asm)
    (case mqZ => exact rfl)
    (case NZ => k_asm)
    (case m2Z => k_mem)
    (case m1Z => k_mem)
    (case m3Z => k_mem)
    (case m4Z => k_mem)
    (case m6Z => k_mem)
    (case m7Z => k_mem)
    (case m8Z => k_mem)
    (case m9Z => k_mem)
    (case cVZ => with_reducible assumption)
    (case cAZ => with_reducible assumption)
    (case cCZ => first | with_reducible assumption | with_unfolding_all assumption)
    (case cDZ => first | with_reducible assumption | with_unfolding_all assumption)
    (case m5Z => k_mem)
    (case n1Z => k_mem)
    (case n2Z => k_mem)
    (case n3Z => k_mem)
    (case n4Z => k_mem)
    (case n5Z => k_mem)
    (case n6Z => k_mem)
    (case daZ => with_reducible assumption)
    (case laZ => with_reducible assumption)
    (case l1Z => (walk_at "k_lt2"))
    (case l2Z => (walk_at "k_lt2"))
    (case l3Z => (walk_at "k_lt2"))
    (case l4Z => (walk_at "k_lt2"))
    (case l5Z => (walk_at "k_lt2"))
    (case mTZ => (intro p hp; repeat (first | exact hp | refine List.Mem.tail _ ?_)))
    (case tSZ => exact offCons (by k_ne) (offCons (Nat.ne_of_lt k10) (RestLt.ne rl (by omega))))
    (case tVZ => exact offCons (by k_ne) (offCons (by omega) (RestLt.ne rl (by omega))))
    (case taZ => exact offCons (by k_ne) (offCons (by omega) (RestLt.ne rl (by omega))))
    (case tqZ => exact offCons (by k_ne) (offCons (by omega) (RestLt.ne rl (by omega))))
    (case tvlZ => exact offCons (by k_ne) (offCons (by omega) (RestLt.ne rl (by omega))))
    (case hGZ => exact fun h b t => ⟨b, fun p hp => t p (.tail _ (hn p hp)), hIg h (t _ (.head _)), .nil, fun p hp => nomatch hp⟩)

end PartS10

section PartS11
theorem cells_last {w : World} {gb : Heap} {Lg dm vc cl sv : Addr} {cells : List (Addr × Obj)}
    {name qual : PySem.Str} {params : Arguments} {body : List Stmt} {scope : Scope} {dV kV doc pm cdv ct oc : Value} {an od : Option Addr} {osl : Array (Option Value)}
    {mg mb : PySem.Str → Option Value} {mean : ExcName → Option Value} (X : (hd.heap_1 w.params).In gb) (T : Top hd.view_39 loos mean mg mb gb)
    (ho : (hd.heap_1 w.params).lookup 169 = some ⟨oc, od, .func (fnOf name qual params body scope dV kV doc pm an cdv ct), osl⟩)
    (Y : CellsAre (bindC (envOfC qual scope Lg 169 cdv).kindOf [(PySem.Str.ofString "self", .ref sv), (PySem.Str.ofString "domains", .ref dm), (PySem.Str.ofString "constraints", .ref cl), (PySem.Str.ofString "vconstraints", .ref vc)] fun _ => none) (cellsFrom (Lg + 1) scope.names []) cells) :
    (∃ o, (Lg + 1 + 1 + 1 + 1, o) ∈ cells) ∧ PySem.Challenge.rw_al0016_01.row.prog = PySem.Challenge.rw_al0016_01.row.prog := by
  revert X
  k_fill
  intro X
  have e2 := Option.some.inj (ho.symm.trans (by k_is))
  cases e2
  k_cells Y
  exact ⟨⟨_, .head _⟩, rfl⟩

theorem gen_sols {w : World} {gb : Heap} {Lg I dm vc lc cl x dx sv dv : Addr} {gI : Nat} {A : Around} {mg mb : PySem.Str → Option Value} {mean : ExcName → Option Value} {led kept cells : List (Addr × Obj)} {V : List Value} {s : Shared} {Q : Value → Shared → Prop} {E : Value → Shared → Prop}
    {name qual : PySem.Str} {params : Arguments} {body : List Stmt} {scope : Scope} {dV kV doc pm cdv ct oc : Value} {an od : Option Addr} {osl : Array (Option Value)} {o1 o2 odx : Obj} {cc nn : Nat} {h6 : Int} {t6 : Tok}
    (hh : A.handled = none) (hroom : A.depth + 8 < recursionLimit)
    (ho : (hd.heap_1 w.params).lookup 169 = some ⟨oc, od, .func (fnOf name qual params body scope dV kV doc pm an cdv ct), osl⟩)
    (R : Ready (hd.heap_1 w.params) hd.view_39 loos mean mg mb gb Lg I gI (bindL (envOfC qual scope Lg 169 cdv).kindOf [(PySem.Str.ofString "self", .ref sv), (PySem.Str.ofString "domains", .ref dm), (PySem.Str.ofString "constraints", .ref cl), (PySem.Str.ofString "vconstraints", .ref vc)] fun _ => none) cells led s.heap)
    (Y : CellsAre (bindC (envOfC qual scope Lg 169 cdv).kindOf [(PySem.Str.ofString "self", .ref sv), (PySem.Str.ofString "domains", .ref dm), (PySem.Str.ofString "constraints", .ref cl), (PySem.Str.ofString "vconstraints", .ref vc)] fun _ => none) (cellsFrom (Lg + 1) scope.names []) cells)
    (hgs : s.gens[gI]? = some (.fresh (.func body (envOfC qual scope Lg 169 cdv)))) (hlt : ∀ q ∈ led, q.1 < Lg)
    (m1 : (dm, o1) ∈ led) (m2 : (vc, o2) ∈ led) (m3 : (lc, W.listOf #[] cc) ∈ led) (m4 : (x, domObj 264 dx V.toArray nn) ∈ led) (m5 : (dx, odx) ∈ led) (m6 : (sv, instObj 186 dv) ∈ led) (m7 : (dv, dictOf (slvOf h6 t6) 1) ∈ led) (hk : ∀ p ∈ kept, p ∈ led)
    (d1 : o1.IsDictOf (PySem.strKind PySem.Challenge.rw_al0016_01.row.prog w) [(keyA, .ref x)]) (d2 : o2.IsDictOf (PySem.strKind PySem.Challenge.rw_al0016_01.row.prog w) [(keyA, .ref lc)]) (lo1 : (dm == sysModules) = false) (lo2 : (vc == sysModules) = false)
    (hV : V.length ≤ 9) (hV0 : V.length ≠ 0)
    (done : ∀ S h' tk ds c' gens', (∀ p ∈ kept, p.1 ≠ S) → gb.get? S = none → gens'.size = s.gens.size → (∀ j, j ≠ gI → gens'[j]? = s.gens[j]?) → gens'[gI]? = some .finished → h'.get? S = some (lstO (refsOf ds) c') → GS PySem.Challenge.rw_al0016_01.row.prog w gb Lg S I gI kept V.reverse ds h' →
      Q (.ref S) { s with heap := h', toks := tk, gens := gens' }) :
    wpAny (model PySem.Challenge.rw_al0016_01.row.prog w) A (call (.type "list") [.ref I]) Q E s := by
  obtain ⟨oI, nm, qn, hoI, rI⟩ := id R.gen
  obtain ⟨⟨o4, hm4⟩, _⟩ := cells_last R.X R.T ho Y
  have l9 : @LT.lt Nat _ (Lg + 4) I := R.lt _ (List.mem_append_left _ hm4)
  have q : ∀ p ∈ led, s.heap.get? p.1 = some p.2 ∧ p.1 ≠ Lg ∧ gb.get? p.1 = none := fun p hp => R.nwg p (List.mem_append_right _ hp)
  refine gen_list (gb := gb) (Lg := Lg) (gI := gI) (news := kept) (V := V) (c₀ := .func body (envOfC qual scope Lg 169 cdv)) hh hroom R.T.nolimit (by omega) R.gen hgs R.frg.keep (fun p hp => (q p (hk p hp)).1) ?_ done
  intro S s₀ c k lt g eS
  have hIS : @LT.lt Nat _ I S := lt _ _ hoI
  have hSgb : gb.get? S = none := by
    cases e : gb.get? S with
    | none => rfl
    | some o => exact absurd (lt _ _ (R.frg.keep _ _ e)) (Nat.lt_irrefl _)
  have ndone : A.in1.in1.in1 = ⟨none, A.in1.in1.in1.depth, A.in1.in1.in1.frames, A.in1.in1.in1.guards, A.in1.in1.in1.units⟩ := by
    obtain ⟨hdl, dep, fr, gu, un⟩ := A
    have hh2 : hdl = none := hh
    subst hh2
    rfl
  have N' : News gb Lg s₀.heap (cells ++ ((dm, o1) :: (vc, o2) :: (lc, W.listOf #[] cc) :: (x, domObj 264 dx V.toArray nn) :: (dx, odx) :: (sv, instObj 186 dv) :: (dv, dictOf (slvOf h6 t6) 1) :: (S, lstO [] c) :: (I, oI) :: kept)) := by
    have q2 : ∀ p ∈ led, s₀.heap.get? p.1 = some p.2 ∧ p.1 ≠ Lg ∧ gb.get? p.1 = none := fun p hp => ⟨k _ _ (q p hp).1, (q p hp).2⟩
    intro p hp
    rcases List.mem_append.mp hp with hp | hp
    · have z := R.nwg p (List.mem_append_left _ hp)
      exact ⟨k _ _ z.1, z.2⟩
    rcases List.mem_cons.mp hp with rfl | hp
    · exact q2 _ m1
    rcases List.mem_cons.mp hp with rfl | hp
    · exact q2 _ m2
    rcases List.mem_cons.mp hp with rfl | hp
    · exact q2 _ m3
    rcases List.mem_cons.mp hp with rfl | hp
    · exact q2 _ m4
    rcases List.mem_cons.mp hp with rfl | hp
    · exact q2 _ m5
    rcases List.mem_cons.mp hp with rfl | hp
    · exact q2 _ m6
    rcases List.mem_cons.mp hp with rfl | hp
    · exact q2 _ m7
    rcases List.mem_cons.mp hp with rfl | hp
    · exact ⟨eS, Nat.ne_of_gt (by have := R.ltL; show @LT.lt Nat _ Lg S; omega), hSgb⟩
    rcases List.mem_cons.mp hp with rfl | hp
    · exact ⟨k _ _ hoI, Nat.ne_of_gt R.ltL, R.gbI⟩
    exact q2 _ (hk _ hp)
  rw [ndone]
  exact gen_seg R.X R.T ho Y (R.frg.keeps k) N' d1 d2 lo1 lo2 (fun p hp => hlt p (hk p hp)) (hlt _ m1) (hlt _ m2) (hlt _ m3) (hlt _ m4) (hlt _ m5) (hlt _ m6) (hlt _ m7) (by omega) l9 hIS (fun p hp => hp) (fun h e => ⟨oI, nm, qn, e, rI⟩) hV hV0

end PartS11

section PartS12
theorem sols_spec {w : World} {h₀ : Heap} {env : Env} {L p dp sv dv cl vd x dx ha sa : Addr} {mg mb : PySem.Str → Option Value} {mean : ExcName → Option Value} {m : PySem.Str → Option Value} {s : Shared} {rest : List (Addr × Obj)} {E : Value → Shared → Prop} {Q : Value → Shared → Prop}
    {vs : List Value} {ns : List Int} {h1 h2 h3 h4 h5 h6 : Int} {t1 t2 t3 u1 u2 t6 : Tok} {n k k2 c1 c2 c3 : Nat} {o : Obj}
    (G : Gd w h₀ env L mg mb mean) (F : Fr h₀ L s.heap m) (N : News h₀ L s.heap ((x, domObj 264 dx vs.toArray n) :: (dx, dictOf (desOf ha sa h4 h5 u1 u2) k2) :: (ha, W.listOf #[] c1) :: (sa, W.listOf #[] c2) :: (p, instObj 110 dp) :: (dp, dictOf (probOf sv cl vd h1 h2 h3 t1 t2 t3) k) :: (vd, o) :: (sv, instObj 186 dv) :: (dv, dictOf (slvOf h6 t6) 1) :: (cl, W.listOf #[] c3) :: rest))
    (a1 : @LT.lt Nat _ dp p) (a2 : @LT.lt Nat _ p dv) (a3 : @LT.lt Nat _ dv sv) (a4 : @LT.lt Nat _ sv cl) (a5 : @LT.lt Nat _ cl vd) (a6 : @LT.lt Nat _ vd dx) (a7 : @LT.lt Nat _ dx x) (a8 : @LT.lt Nat _ x ha) (a9 : @LT.lt Nat _ ha sa) (r0 : ∀ q ∈ rest, q.1 < dp)
    (ho : o.IsDictOf (PySem.strKind PySem.Challenge.rw_al0016_01.row.prog w) [(PySem.Str.ofString "a", .ref x)]) (lo : (vd == sysModules) = false) (hi : IntsAre vs ns) (hz : vs.length ≤ 9) (hp : vs.length ≠ 0) (hg : AllBare s.gens)
    (h : ∀ l h' tk g' ds c, AllBare g' → Fr h₀ L h' m → News h₀ L h' ((l, lstO (refsOf ds) c) :: (rest ++ ds)) → DsAre PySem.Challenge.rw_al0016_01.row.prog w ds vs.reverse → Q (.ref l) { s with heap := h', toks := tk, gens := g' }) :
    wpAny (model PySem.Challenge.rw_al0016_01.row.prog w) (callerA.deeper env) (call (.ref 93) [.ref p]) Q E s := by
  have rx : ∀ q ∈ rest, q.1 ≠ x := fun q hq => Nat.ne_of_lt (Nat.lt_trans (r0 q hq) (by omega))
  have rha : ∀ q ∈ rest, q.1 ≠ ha := fun q hq => Nat.ne_of_lt (Nat.lt_trans (r0 q hq) (by omega))
  have rsa : ∀ q ∈ rest, q.1 ≠ sa := fun q hq => Nat.ne_of_lt (Nat.lt_trans (r0 q hq) (by omega))
  have rdx : ∀ q ∈ rest, q.1 ≠ dx := fun q hq => Nat.ne_of_lt (Nat.lt_trans (r0 q hq) (by omega))
  obtain ⟨B, X, T, hf, hk⟩ := G
  revert X
  k_fill
  intro X
  w_top on
  refine wpAny_call ?_
  refine' code_def B F X N T ?kA hf hk ?k6 ?k7 ?k8 ?k9 ?kB ?_ ?c2 ?c3 ?c4 ?c5
  (case kA => exact rfl)
  (case k6 => k_is)
  (case k7 => k_is); (case k8 => k_room); (case k9 => exact BindsTo.of_eq rfl)
  (case c5 => decide); (case kB => exact locs rfl); (case c2 => exact rfl); (case c3 => exact rfl); (case c4 => exact rfl); k_whole
  intro g' L' h' FG' F' N' B' X' T'; (try dsimp only); (try k_lift B'); (try k_fold)

  (repeat' (first | (k_unfold; (try dsimp only)) | (k_end; kc_close) | (lge_end; k_here; first | ((with_reducible show ForRest ..); (k_here; k_dflt (refine' ForRest.values1 (by exact rfl) (by k_asm) (by k_asm) (by k_mem) (by k_mem) (by assumption) (by passes_own) (by intro _ _; rfl) ?_); intro I' oI' h' tk' F' N' l1; (try k_lt l1); (try k_sweep))) | ((with_reducible show ForRest ..); (k_here; k_dflt (refine' ForRest.keys1 (by exact rfl) (by k_asm) (by k_asm) (by k_mem) (by assumption) (by assumption) (by passes_own) (by intro _ _; rfl) ?_); intro t' I' oI' h' tk' F' N' l1; (try k_lt l1); (try k_sweep))) | ((with_reducible show ForRest ..); (k_here; k_dflt (refine' ForRest.empty (by exact rfl) (by k_asm) (by k_asm) (by k_mem) (by passes_own) ?_); intro h' F' N'; (try k_sweep)))) | (k_here; first | ((with_reducible show wpAny _ _ (call (Value.type "list") _ _) _ _ _); first | (k_here; (with_reducible rename Ready _ _ _ _ _ _ _ _ _ _ _ _ _ _ => kR); (with_reducible rename Back _ _ _ _ => kB); k_dflt (refine' gen_sols ?hh ?room ?ho kR ?Y ?hgs ?hlt ?m1 ?m2 ?m3 ?m4 ?m5 ?m6 ?m7 ?hk ?d1 ?d2 ?lo1 ?lo2 ?hV ?hV0 ?_; (case hh => exact rfl); (case room => k_room); (case Y | hgs => assumption); (case ho => k_is); (case hlt => assumption); (case m1 | m2 => k_mem); (case d1 | d2 => assumption); (case m3 | m4 | m5 | m6 | m7 => k_mem); (case hk => exact fun p hp => hp); (case lo1 | lo2 => assumption); (case hV | hV0 => omega)); intro S' h' tk' ds' c' gens' nS' gS' z1' z2' z3' eS' g'; refine' gen_back kB ?kN gS' eS' g' ?_; (case kN => k_asm); intro F' N'; (try simp only [List.cons_append] at N'))) | ((with_reducible show wpAny _ _ (call (Value.ref _) _ _) _ _ _); first | (k_here; (with_reducible show wpAny _ _ (call (Value.ref 169) _ _) _ _ _); k_dflt (refine' gen_make (by k_asm) (by k_asm) (by k_asm) (by k_asm) (by k_is) (by k_is) (by k_room) (by exact BindsTo.of_eq rfl) (by exact rfl) (by decide +kernel) ?_ (by exact rfl) (by exact rfl) (by exact rfl)); intro gb Lg I h₁ tk cells Y R Bk N' hgs hlt'; (have F' := Bk.fr _ R.frg.keep))) | ((with_reducible show wpAny _ _ (truthy (Value.ref _)) _ _ _); first | (k_here; k_dflt (refine' truthy_domT (by k_asm) (by k_asm) (by k_asm) (by walk_at "lc") (by k_mem) (by k_mem) (by assumption) (by assumption) ?_)) | (k_here; k_dflt (refine' truthy_dictT (by k_asm) (by k_mem) (by assumption) (by assumption) (by exact Nat.le_of_ble_eq_true rfl) ?_))) | ((with_reducible show wpAny _ _ (call (Value.builtin "dict.values") _ _) _ _ _); first | (k_here; k_dflt (refine' dvaluesK (by k_asm) (by k_asm) (by k_mem) (by assumption) (by assumption) ?_); intro v' h' F' N' l1; (try k_lt l1); (try k_sweep))) | ((with_reducible show wpAny _ _ (getMethod (Value.ref _) _ _) _ _ _); first | (k_here; (with_reducible show wpAny _ _ (getMethod (Value.ref _) (PySem.Str.ofString "values") _) _ _ _); k_dflt (refine' kob_method (knd := PySem.strKind _ _) PySem.F.slot_dict_values PySem.F.type_dict_values (by k_asm) (by k_mem) (by assumption) ?_)) | (k_here; (with_reducible show wpAny _ _ (getMethod (Value.ref _) (PySem.Str.ofString "copy") _) _ _ _); k_dflt (refine' kob_method (knd := PySem.strKind _ _) PySem.F.slot_dict_copy PySem.F.type_dict_copy (by k_asm) (by k_mem) (by assumption) ?_))) | ((with_reducible show wpAny _ _ (call (Value.builtin "dict.copy") _ _) _ _ _); first | (k_here; k_dflt (refine' dcopyK (by k_asm) (by k_asm) (by k_mem) (by assumption) (by assumption) (by first | exact Top.nolimit (by k_asm) | exact TopRead.nolimit (by k_asm)) (by exact Nat.le_of_ble_eq_true rfl) ?_); intro d' h' o' F' N' hd' l1 lo'; (try k_lt l1); (try k_sweep))) | ((with_reducible show wpAny _ _ (call (Value.builtin "isinstance") _ _) _ _ _); first | (k_here; (with_reducible show wpAny _ _ (call (Value.builtin _) [Value.ref _, Value.ref _]) _ _ _); k_dflt (refine' isi_ltK (by k_asm) (by k_asm) (by k_asm) (by walk_at "lc") (by k_mem) (by k_mem) (by k_mem) ?_); intro tk')) | ((with_reducible show wpAny _ _ (eval (PySem.Expr.Dict ..) _) _ _ _); first | (k_here; k_dflt (refine' newDict_K (by k_asm) (by k_asm) (by first | exact Top.nolimit (by k_asm) | exact TopRead.nolimit (by k_asm)) ?_; k_whole); intro d' h' o' F' N' l1 lo' hs' fs' hi' fi'; clear fs' hi' fi'; (try k_lt l1); (try k_sweep))) | ((with_reducible show wpAny _ _ (delItem (Value.ref _) (Value.ref _)) _ _ _); first | (k_here; k_dflt (first | (refine' del_tailK (by k_asm) (by k_asm) (by omega) (by k_upd) (by omega) ?_) | (refine' del_allK (by k_asm) (by k_asm) (by k_upd) (by first | omega | exact Nat.zero_le _) ?_)); intro h' F' N'; (try k_sweep))) | ((with_reducible show wpAny _ _ (call (Value.builtin "list.extend") _ _) _ _ _); first | (k_here; k_dflt (refine' extend_domK ?F ?X ?N ?Y ?d ?U ?b ?c ?s ?z ?_; (case F | X | N => k_asm); (case U => k_upd); (case b => exact (News.get (by k_asm) (by k_mem))); (case c => first | exact .inl rfl | exact .inr rfl); (case s => rfl); (case d => k_mem); (case Y => walk_at "lc"); (case z => first | omega | (simp only [List.length_drop]; omega) | (simp only [List.length_nil]; omega))); intro h' F' N'; (try simp only [List.append_nil] at N'); (try k_sweep)))) | walk1 | (dsimp only; walk1) | (leave1; walk_say "STEP leave1"; (try dsimp only)) | fail "no step"))
  all_goals (try k_data)
  with_reducible rename News _ _ _ _ => kN
  with_reducible rename GS _ _ _ _ _ _ _ _ _ _ _ => kG
  refine' h _ _ _ _ _ _ (bare_of hg (by assumption) (by assumption) (by assumption)) (by assumption) (newsSub kN ?sub) kG.dicts
  case sub =>
    intro p hp
    rcases List.mem_cons.mp hp with hp | hp
    · rw [hp]; exact .head _
    · repeat (first | exact hp | refine List.Mem.tail _ ?_)

end PartS12

end Walks7

section PartS13
theorem ne_len {ys : List Value} {gs : List Int} (hi : IntsAre ys gs) (h : decide (gs = []) = false) : ys.length ≠ 0 := fun e => by
  have := hi.length
  have e2 : gs = [] := List.eq_nil_of_length_eq_zero (by omega)
  rw [decide_eq_true e2] at h
  cases h
theorem addvar2 {w : World} {h₀ : Heap} {env : Env} {L p dp sv dv cl vd d dd : Addr} {mg mb : PySem.Str → Option Value} {mean : ExcName → Option Value} {m : PySem.Str → Option Value} {s : Shared} {led law : List (Addr × Obj)} {E : Value → Shared → Prop} {Q : Value → Shared → Prop}
    {vs : List Value} {h1 h2 h3 h6 : Int} {t t1 t2 t3 t6 : Tok} {n k c3 : Nat} {o od : Obj}
    (G : Gd w h₀ env L mg mb mean) (F : Fr h₀ L s.heap m) (N : News h₀ L s.heap led)
    (mp : (p, instObj 110 dp) ∈ led) (mdp : (dp, dictOf (probOf sv cl vd h1 h2 h3 t1 t2 t3) k) ∈ led) (mvd : (vd, o) ∈ led) (md : (d, domObj 264 dd vs.toArray n) ∈ led) (mdd : (dd, od) ∈ led)
    (mcl : (cl, W.listOf #[] c3) ∈ led) (msv : (sv, instObj 186 dv) ∈ led) (mdv : (dv, dictOf (slvOf h6 t6) 1) ∈ led) (law0 : ∀ q ∈ law, q.1 < dp) (hl : ∀ q ∈ law, q ∈ led)
    (b1 : @LT.lt Nat _ dp p) (b2 : @LT.lt Nat _ p dv) (b3 : @LT.lt Nat _ dv sv) (b4 : @LT.lt Nat _ sv cl) (b5 : @LT.lt Nat _ cl vd) (b6 : @Ne Nat d vd) (b7 : @Ne Nat dd vd)
    (ho : o.IsDictOf (PySem.strKind PySem.Challenge.rw_al0016_01.row.prog w) []) (lo : (vd == sysModules) = false) (hz : vs.length ≤ 9) (hp : vs.length ≠ 0)
    (h : ∀ x dx ha sa h' tk n' u1 u2 h4 h5 o', Fr h₀ L h' m → News h₀ L h' ((x, domObj 264 dx vs.toArray n') :: (dx, dictOf (desOf ha sa h4 h5 u1 u2) 2) :: (ha, W.listOf #[] 0) :: (sa, W.listOf #[] 0) :: (p, instObj 110 dp) :: (dp, dictOf (probOf sv cl vd h1 h2 h3 t1 t2 t3) k) :: (vd, o') :: (sv, instObj 186 dv) :: (dv, dictOf (slvOf h6 t6) 1) :: (cl, W.listOf #[] c3) :: law) →
      o'.IsDictOf (PySem.strKind PySem.Challenge.rw_al0016_01.row.prog w) [(PySem.Str.ofString "a", .ref x)] → @LT.lt Nat _ dx x → @LT.lt Nat _ x ha → @LT.lt Nat _ ha sa → @LT.lt Nat _ vd dx → Q .none { s with heap := h', toks := tk }) :
    wpAny (model PySem.Challenge.rw_al0016_01.row.prog w) (callerA.deeper env) (call (.ref 64) [.ref p, .str (PySem.Str.ofString "a") t, .ref d]) Q E s := by
  have l2 : @LT.lt Nat _ dp vd := by omega
  refine addvar_spec (rest := (cl, W.listOf #[] c3) :: (sv, instObj 186 dv) :: (dv, dictOf (slvOf h6 t6) 1) :: law) G F (led5 N mp mdp mvd md mdd ?_) (by omega) (by omega) b6 b7 ?_ ho lo hz hp ?_
  · intro q hq
    simp only [List.mem_cons] at hq
    rcases hq with hq | hq | hq | hq
    · exact hq ▸ mcl
    · exact hq ▸ msv
    · exact hq ▸ mdv
    · exact hl q hq
  · exact offCons (by omega) (offCons (by omega) (offCons (by omega) fun q hq => Nat.ne_of_lt (Nat.lt_trans (law0 q hq) l2)))
  · intro x dx ha sa tp ot h' tk n' u1 u2 h4 h5 o' F' N' ho' q1 q2 q3 hA
    refine h x dx ha sa h' tk n' u1 u2 h4 h5 o' F' (newsSub N' fun p hp => ?_) ho' q1 q2 q3 (hA (vd, o) (by simp))
    simp only [List.mem_cons] at hp ⊢
    rcases hp with h | h | h | h | h | h | h | h | h | h | h <;> simp [h]
theorem sols2 {w : World} {h₀ : Heap} {env : Env} {L p dp sv dv cl vd x dx ha sa : Addr} {mg mb : PySem.Str → Option Value} {mean : ExcName → Option Value} {m : PySem.Str → Option Value} {s : Shared} {rest : List (Addr × Obj)} {E : Value → Shared → Prop} {Q : Value → Shared → Prop}
    {vs : List Value} {ns : List Int} {h1 h2 h3 h4 h5 h6 : Int} {t1 t2 t3 u1 u2 t6 : Tok} {n k k2 c1 c2 c3 : Nat} {o : Obj}
    (G : Gd w h₀ env L mg mb mean) (F : Fr h₀ L s.heap m) (N : News h₀ L s.heap ((x, domObj 264 dx vs.toArray n) :: (dx, dictOf (desOf ha sa h4 h5 u1 u2) k2) :: (ha, W.listOf #[] c1) :: (sa, W.listOf #[] c2) :: (p, instObj 110 dp) :: (dp, dictOf (probOf sv cl vd h1 h2 h3 t1 t2 t3) k) :: (vd, o) :: (sv, instObj 186 dv) :: (dv, dictOf (slvOf h6 t6) 1) :: (cl, W.listOf #[] c3) :: rest))
    (a1 : @LT.lt Nat _ dp p) (a2 : @LT.lt Nat _ p dv) (a3 : @LT.lt Nat _ dv sv) (a4 : @LT.lt Nat _ sv cl) (a5 : @LT.lt Nat _ cl vd) (a6 : @LT.lt Nat _ vd dx) (a7 : @LT.lt Nat _ dx x) (a8 : @LT.lt Nat _ x ha) (a9 : @LT.lt Nat _ ha sa) (r0 : ∀ q ∈ rest, q.1 < dp)
    (ho : o.IsDictOf (PySem.strKind PySem.Challenge.rw_al0016_01.row.prog w) [(PySem.Str.ofString "a", .ref x)]) (lo : (vd == sysModules) = false) (hi : IntsAre vs ns) (hz : vs.length ≤ 9) (hp : vs.length ≠ 0) (hg : AllBare s.gens)
    (h : ∀ l h' tk g' ds c, AllBare g' → Fr h₀ L h' m → News h₀ L h' ((l, lstO (refsOf ds) c) :: (rest ++ ds)) → DsAre PySem.Challenge.rw_al0016_01.row.prog w ds vs.reverse → IntsAre vs.reverse ns.reverse → (refsOf ds).toArray.size ≤ sizeLine → Q (.ref l) { s with heap := h', toks := tk, gens := g' }) :
    wpAny (model PySem.Challenge.rw_al0016_01.row.prog w) (callerA.deeper env) (call (.ref 93) [.ref p]) Q E s :=
  sols_spec G F N a1 a2 a3 a4 a5 a6 a7 a8 a9 r0 ho lo hi hz hp hg fun l h' tk g' ds c b1 b2 b3 b4 => h l h' tk g' ds c b1 b2 b3 b4 (ints_rev hi) (by
    have := b4.length
    rw [sizeLine_eq, List.size_toArray]
    simp at this ⊢
    omega)

end PartS13

section PartMain
local macro_rules | `(tactic| walk_at "DeedList") => `(tactic| ((refine' ⟨_, _, _, _, _, _, rfl, rfl, by k_asm, by k_asm, by assumption, ?hI, ?hL⟩); (case hI => first | assumption | (repeat (first | exact IntsAre.nil | refine IntsAre.cons _ _ ?_))); (case hL => first | omega | decide)))
local macro_rules | `(tactic| walk_at "ne") => `(tactic| first | with_reducible assumption | exact Ne.symm (by with_reducible assumption) | exact Nat.ne_of_lt (by with_reducible assumption) | exact Nat.ne_of_gt (by with_reducible assumption) | omega)
local macro_rules | `(tactic| walk_at "gd") => `(tactic| exact ⟨by assumption, by assumption, by assumption, rfl, rfl⟩)
local macro_rules | `(tactic| walk_at "nw") => `(tactic| first | k_asm | exact newsSub (by k_asm) (fun p hp => List.Mem.tail _ hp) | exact newsSub (by k_asm) (fun p hp => List.Mem.tail _ (List.Mem.tail _ hp)))
local macro_rules | `(tactic| walk_at "off") => `(tactic| ((repeat (refine offCons (by walk_at "ne") ?_)); assumption))
local macro_rules | `(tactic| k_mem) => `(tactic| (first | assumption | (refine List.Mem.tail _ ?_; assumption) | (refine List.Mem.tail _ (List.Mem.tail _ ?_); assumption) | (refine List.Mem.tail _ (List.Mem.tail _ (List.Mem.tail _ ?_)); assumption) | (iterate 24 (try (refine List.Mem.tail _ ?_))); assumption))
local macro_rules | `(tactic| walk_at "CompSrcT") => `(tactic| (k_here; k_dflt (refine LCt.CompSrcT.ledger (by rfl) (by k_asm) (by k_asm) (by k_mem) (by (rw [List.size_toArray, sizeLine_eq]; omega)) ?_; intro g'; (refine' kci_list _ (by assumption) (fun k' t' I' oI' C' oC' D' m' ys' l' h' tk' E' hk' hI' hC' hx' F' N' off' ne' => ?_) ?_ ?_); (all_goals (try (simp only [LCg.Off3, and_true] at off'))); (all_goals (try ((show KPfMark → _); intro hMark'))); kcf_last)))
local macro_rules | `(tactic| walk_at "storeName") => `(tactic| (k_here; k_dflt (refine' storeX_C (by k_asm) (by k_asm) (by rfl) (by k_updF) (by k_asm) ?_ (by rfl) (by rfl); k_whole; intro h' o' F' N' d'; (try dsimp only at N'); (try dsimp only at d'); (try dsimp only at F'); (try k_sweep))))
local macro_rules | `(tactic| walk_at "ite") => `(tactic| (k_here; first
  | refine ite_pos (decide_eq_true (by with_reducible assumption)) ?_
  | refine ite_neg (Bool.eq_false_iff.mp (decide_eq_false (by with_reducible assumption))) ?_))
local macro_rules | `(tactic| walk_at "call ref") => `(tactic| (k_here; (with_reducible show wpAny _ _ (call (Value.ref 93) _ _) _ _ _); k_dflt (refine' sols2 (by walk_at "gd") (by k_asm) (by k_asm) (by walk_at "ne") (by walk_at "ne") (by walk_at "ne") (by walk_at "ne") (by walk_at "ne") (by walk_at "ne") (by walk_at "ne") (by walk_at "ne") (by walk_at "ne") (by assumption) (by assumption) (by assumption) (by assumption) (by walk_at "ne") (by exact ne_len (by assumption) (by assumption)) (by exact AllBare.of_eq (by assumption)) ?_); intro l' h' tk' gg' ds' c' hb' F' N' hds' hrev' hsz'; (try simp only [List.cons_append, List.nil_append] at N'); (try k_sweep)))
local macro_rules | `(tactic| walk_at "CompSrc") => `(tactic| (k_here; k_dflt (refine' LCg.CompSrc.ledger (by exact rfl) (by k_asm) (by k_asm) (by k_mem) (by assumption) ?_); intro g'; k_dflt (refine' comp_ways (by assumption) (by walk_at "sub") (by exact .inr ⟨_, by k_mem, rfl, _, rfl⟩) (by (intro a o v I oI C oC D ys m₂ h tk E' R ham hd hC hx F' N' off' ne' hR; (repeat walk1); exact hR _)) ?_)))
local macro_rules | `(tactic| walk_at "subscriptTail Name Constant ref str") => `(tactic| (k_here; k_dflt (refine' dict_one (by k_asm) (by k_mem) (by with_reducible assumption) ?_ (by with_unfolding_all rfl))))
local macro_rules | `(tactic| walk_at "DeedList") => `(tactic| (refine' DeedList.eight ?kF ?kN ?kA ?kE; (case kF | kN => k_asm); (case kA => assumption); (case kE => exact rfl)))
abbrev kAs : List Nat := [2, 3, 15, 17, 18, 20, 21, 22, 29, 30, 32, 33, 35, 36, 37, 39, 40, 42, 43, 44, 46, 47, 49, 50, 51, 53, 54, 56, 57, 58, 60, 61, 63, 64, 65, 67, 68, 70, 71, 72, 73, 75, 76, 78, 79, 80, 82, 83, 85, 86, 87, 89, 90, 92, 93, 94, 96, 97, 99, 100, 101, 103, 104, 106, 107, 108, 109, 110, 111, 112, 115, 122, 124, 125, 127, 128, 129, 131, 132, 134, 135, 136, 138, 139, 141, 142, 143, 144, 145, 146, 147, 150, 157, 158, 160, 161, 163, 164, 165, 168, 169, 170, 172, 173, 175, 176, 177, 179, 180, 182, 183, 184, 185, 186, 189, 196, 198, 199, 201, 202, 203, 205, 206, 208, 209, 210, 211, 212, 213, 214, 217, 218, 220, 227, 229, 230, 232, 233, 234, 236, 237, 239, 240, 241, 243, 244, 246, 247, 248, 250, 251, 253, 254, 255, 257, 258, 260, 261, 262, 263, 264, 265, 266, 269, 276, 278, 279, 281, 282, 283, 284, 286, 287, 289, 290, 291, 293, 294, 296, 297, 298, 299, 301, 302, 304, 305, 306, 307, 308, 309, 310, 313, 320, 321, 323, 324, 326, 327, 328, 329, 332, 333, 334, 335, 336, 339, 342, 343, 344, 346, 347, 349, 350, 351, 353, 354, 356, 357, 358, 361, 362]
theorem holds.tw12657093848384798476 : True := True.intro
theorem holds.tw16315053957116525436 : True := True.intro
theorem holds.tw9638990691586225099 : True := True.intro
theorem holds.tw2682973687022302978 : True := True.intro
theorem holds.tw16568243084613897719 : True := True.intro
theorem holds.tw16908686848171061149 : True := True.intro
theorem holds.tw13980644296350529377 : True := True.intro
theorem holds.tw14841467600133894846 : True := True.intro
theorem holds.tw11379536335273661636 : True := True.intro
theorem holds.tw2936799095737714382 : True := True.intro
theorem holds.tw9321796208036801940 : True := True.intro
theorem holds.tw945861476033566700 : True := True.intro
theorem holds.tw7873036012977236159 : True := True.intro
theorem holds.tw8571184235532366510 : True := True.intro
theorem holds.tw15464432741802594518 : True := True.intro
theorem holds.tw3280128972450656526 : True := True.intro
theorem holds.tw6606875086121380550 : True := True.intro
theorem holds.tw3092724735428445279 : True := True.intro
theorem holds.tw9430090754398894584 : True := True.intro
theorem holds.tw13090532395170442342 : True := True.intro
theorem holds.tw6489310206099298910 : True := True.intro
theorem holds.tw9160933379109621080 : True := True.intro
theorem holds.tw13651502964188933756 : True := True.intro
theorem holds.tw15356600547250028879 : True := True.intro
theorem holds.tw12467034654032377186 : True := True.intro
theorem holds.tw4475622257904601326 : True := True.intro
theorem holds.tw4197124852483764760 : True := True.intro
theorem holds.tw685634667276709000 : True := True.intro
theorem holds.tw3279077582325829838 : True := True.intro
theorem holds.tw7145057240379410032 : True := True.intro
theorem holds.tw6817751937963910627 : True := True.intro
theorem holds.tw4772410448533662562 : True := True.intro
theorem holds.tw4624323801304008105 : True := True.intro
theorem holds.tw4532548537324856634 : True := True.intro
theorem holds.tw14456359579513077766 : True := True.intro
theorem holds.tw1477864382951527211 : True := True.intro
theorem holds.tw15663057623668237757 : True := True.intro
theorem holds.tw4485590747672999114 : True := True.intro
theorem holds.tw7798976556582896058 : True := True.intro
theorem holds.tw9866653766423218390 : True := True.intro
theorem holds.tw15670438280644718882 : True := True.intro
theorem holds.tw10705761992013847755 : True := True.intro
theorem holds.tw9441326970708011783 : True := True.intro
theorem holds.tw17294395744611713098 : True := True.intro
theorem holds.tw298297018594106725 : True := True.intro
theorem holds.tw12629177860411813126 : True := True.intro
theorem holds.tw14083834280242248106 : True := True.intro
theorem holds.tw6396523623945614605 : True := True.intro
theorem holds.tw8102643725754146565 : True := True.intro
theorem holds.tw5857794014393010482 : True := True.intro
theorem holds.tw3210078786618844196 : True := True.intro
theorem holds.tw5350216910946226995 : True := True.intro
theorem holds.tw17450472940649059298 : True := True.intro
theorem holds.tw14404905868111484630 : True := True.intro
theorem holds.tw9408521175777228426 : True := True.intro
theorem holds.tw16319319655380244167 : True := True.intro
theorem holds.tw2003794701753356343 : True := True.intro
theorem holds.tw6266234167145473488 : True := True.intro
theorem holds.tw5721511418477305443 : True := True.intro
theorem holds.tw4496467784121089108 : True := True.intro
theorem holds.tw4252685499439207924 : True := True.intro
theorem holds.tw6816380694822836728 : True := True.intro
theorem holds.tw12056596633878991817 : True := True.intro
theorem holds.tw17647985033660283594 : True := True.intro
theorem holds.tw10817008591213730988 : True := True.intro
theorem holds.tw13676757877788619591 : True := True.intro
theorem holds.tw9327718836232418737 : True := True.intro
theorem holds.tw10202850474951982929 : True := True.intro
theorem holds.tw12004703523718567385 : True := True.intro
theorem holds.tw10637851664137882224 : True := True.intro
theorem holds.tw4381757428849502282 : True := True.intro
theorem holds.tw1974762919298152056 : True := True.intro
theorem holds.tw6866562170496246006 : True := True.intro
theorem holds.tw11341941285841758863 : True := True.intro
theorem holds.tw11502601298335438083 : True := True.intro
theorem holds.tw9250495785965993271 : True := True.intro
theorem holds.tw10494946348260405530 : True := True.intro
theorem holds.tw13942211991455542721 : True := True.intro
theorem holds.tw5082999880386992228 : True := True.intro
theorem holds.tw3117193011312037209 : True := True.intro
theorem holds.tw9569093901706499007 : True := True.intro
theorem holds.tw9458989268892848673 : True := True.intro
theorem holds.tw15985840036639034899 : True := True.intro
theorem holds.tw3589964763223657672 : True := True.intro
theorem holds.tw9518972631687950247 : True := True.intro
theorem holds.tw13563289320671947111 : True := True.intro
theorem holds.tw10876536743886354276 : True := True.intro
theorem holds.tw16887932952891968693 : True := True.intro
theorem holds.tw14411328915609312922 : True := True.intro
theorem holds.tw15733542881966949079 : True := True.intro
theorem holds.tw17180457848445815676 : True := True.intro
theorem holds.tw16725066886706607050 : True := True.intro
theorem holds.tw8163853742193369449 : True := True.intro
theorem holds.tw17549760099613038055 : True := True.intro
theorem holds.tw9284948610034456067 : True := True.intro
theorem holds.tw4796666493748621973 : True := True.intro
theorem holds.tw16307742377514257941 : True := True.intro
theorem holds.tw12354433232887552844 : True := True.intro
theorem holds.tw4137054072099604216 : True := True.intro
theorem holds.tw2277698456845511444 : True := True.intro
theorem holds.tw12553914923479104506 : True := True.intro
theorem holds.tw1508545211966159021 : True := True.intro
theorem holds.tw2167384251425162797 : True := True.intro
theorem holds.tw5959074840488112208 : True := True.intro
theorem holds.tw14747351113905286367 : True := True.intro
theorem holds.tw12461706298059298081 : True := True.intro
theorem holds.tw7365562674294520451 : True := True.intro
theorem holds.tw7885888744534978006 : True := True.intro
theorem holds.tw17591727778206626035 : True := True.intro
theorem holds.tw15216533652830951187 : True := True.intro
theorem holds.tw151567797773009622 : True := True.intro
theorem holds.tw16697607604324151607 : True := True.intro
theorem holds.tw14856189802965030758 : True := True.intro
theorem holds.tw15296638952792297585 : True := True.intro
theorem holds.tw4374827463496512255 : True := True.intro
theorem holds.tw5531990279233569197 : True := True.intro
theorem holds.tw16461013251600362008 : True := True.intro
theorem holds.tw14777700561071354170 : True := True.intro
theorem holds.tw13306226422529918579 : True := True.intro
theorem holds.tw7580357766596436714 : True := True.intro
theorem holds.tw6278366128872770721 : True := True.intro
theorem holds.tw4659233104850659043 : True := True.intro
theorem holds.tw3969078344035082030 : True := True.intro
theorem holds.tw150268843892594924 : True := True.intro
theorem holds.tw13564983018704479910 : True := True.intro
theorem holds.tw3081346186701454755 : True := True.intro
theorem holds.tw1438057683635843531 : True := True.intro
theorem holds.tw4921510776622977656 : True := True.intro
theorem holds.tw15349486494167490861 : True := True.intro
theorem holds.tw6654929391614583909 : True := True.intro
theorem holds.tw1389151227800987198 : True := True.intro
theorem holds.tw10684964147190113176 : True := True.intro
theorem holds.tw15383290158734973844 : True := True.intro
theorem holds.tw4043779546988386903 : True := True.intro
theorem holds.tw5588498093969417903 : True := True.intro
theorem holds.tw1466284255255076664 : True := True.intro
theorem holds.tw14432740918813763817 : True := True.intro
theorem holds.tw10280545108713110612 : True := True.intro
theorem holds.tw8393340031374782525 : True := True.intro
theorem holds.tw3339025504875072537 : True := True.intro
theorem holds.tw13602253286356535353 : True := True.intro
theorem holds.tw3083665863380995925 : True := True.intro
theorem holds.tw1316056555746827224 : True := True.intro
theorem holds.tw12528141070781557109 : True := True.intro
theorem holds.tw5857869478962280401 : True := True.intro
theorem holds.tw14438757958421221462 : True := True.intro
theorem holds.tw15969937429085165904 : True := True.intro
theorem holds.tw17642598502550569490 : True := True.intro
theorem holds.tw17631178891982236634 : True := True.intro
theorem holds.tw2781561513384061212 : True := True.intro
theorem holds.tw5932082505621288647 : True := True.intro
theorem holds.tw1446027475299390936 : True := True.intro
theorem holds.tw8575535491628544125 : True := True.intro
theorem holds.tw10238092577321643331 : True := True.intro
theorem holds.tw8145764620000357539 : True := True.intro
theorem holds.tw8324913547053779211 : True := True.intro
theorem holds.tw759334954848157859 : True := True.intro
theorem holds.tw3378624336152846145 : True := True.intro
theorem holds.tw187104208977503339 : True := True.intro
theorem holds.tw10531532615022067580 : True := True.intro
theorem holds.tw960582308587345451 : True := True.intro
theorem holds.tw5747684920607356772 : True := True.intro
theorem holds.tw655971840912409622 : True := True.intro
theorem holds.tw2060848107316429993 : True := True.intro
theorem holds.tw12689638754185382245 : True := True.intro
theorem holds.tw11619669790576578751 : True := True.intro
theorem holds.tw6159885450047824267 : True := True.intro
theorem holds.tw3381435865837020940 : True := True.intro
theorem holds.tw341968507829977505 : True := True.intro
theorem holds.tw8421654672071835519 : True := True.intro
theorem holds.tw16878984735049331645 : True := True.intro
theorem holds.tw15573729904360925794 : True := True.intro
theorem holds.tw10828986214106111531 : True := True.intro
theorem holds.tw8260078842695283502 : True := True.intro
theorem holds.tw13338651292558784369 : True := True.intro
theorem holds.tw10953125311028157021 : True := True.intro
theorem holds.tw8944343764007091065 : True := True.intro
theorem holds.tw5295917329084666069 : True := True.intro
theorem holds.tw5099458221760260784 : True := True.intro
theorem holds.tw4077311611012620791 : True := True.intro
theorem holds.tw14247145606103189434 : True := True.intro
theorem holds.tw8239031253751857358 : True := True.intro
theorem holds.tw10894570999934473159 : True := True.intro
theorem holds.tw8903297777125119442 : True := True.intro
theorem holds.tw9160814584890018001 : True := True.intro
theorem holds.tw3232270311777372273 : True := True.intro
theorem holds.tw4132201380793018340 : True := True.intro
theorem holds.tw1357463484097335404 : True := True.intro
theorem holds.tw13153363017490239224 : True := True.intro
theorem holds.tw17551835440721493442 : True := True.intro
theorem holds.tw244668840739839672 : True := True.intro
theorem holds.tw7516632072315021061 : True := True.intro
theorem holds.tw16239030619513480838 : True := True.intro
theorem holds.tw1639197193820686003 : True := True.intro
theorem holds.tw15654153127513851752 : True := True.intro
theorem holds.tw1092734292537931370 : True := True.intro
theorem holds.tw7991519602905016326 : True := True.intro
theorem holds.tw13208604148985916543 : True := True.intro
theorem holds.tw17597196502641442581 : True := True.intro
theorem holds.tw5498966250228494579 : True := True.intro
theorem holds.tw10240100896771907615 : True := True.intro
theorem holds.tw8323465864499181419 : True := True.intro
theorem holds.tw10853043219271619230 : True := True.intro
theorem holds.tw707885073954110949 : True := True.intro
theorem holds.tw16049930973857864354 : True := True.intro
theorem holds.tw17856180979147524769 : True := True.intro
theorem holds.tw4046193847619289583 : True := True.intro
theorem holds.tw13002855754428957212 : True := True.intro
theorem holds.tw8868445881999480663 : True := True.intro
theorem holds.tw12468101337765408714 : True := True.intro
theorem holds.tw7944191787301449481 : True := True.intro
theorem holds.tw3626213265524300766 : True := True.intro
theorem holds.tw15493915963290111440 : True := True.intro
theorem holds.tw12720790682440558231 : True := True.intro
theorem holds.tw4480811336153992742 : True := True.intro
theorem holds.tw10061326939861387809 : True := True.intro
theorem holds.tw16740147826971877517 : True := True.intro
theorem holds.tw12808162357026388105 : True := True.intro
theorem holds.tw16451975095625300501 : True := True.intro
theorem holds.tw9766128667603022514 : True := True.intro
theorem holds.tw1095465085569150570 : True := True.intro
theorem holds.tw8801499457356032720 : True := True.intro
theorem holds.tw18145382148040430673 : True := True.intro
theorem holds.tw4954732016240277505 : True := True.intro
theorem holds.tw4065146272016792997 : True := True.intro
theorem holds.tw17500814259130102135 : True := True.intro
theorem holds.tw3579776383272448420 : True := True.intro
theorem holds.tw3161571577714126871 : True := True.intro
theorem holds.tw14691085348537605332 : True := True.intro
theorem holds.tw1158139744184707467 : True := True.intro
theorem holds.tw14149781006570564392 : True := True.intro
theorem holds.tw9523873602847724419 : True := True.intro
theorem holds.tw10824115321126796680 : True := True.intro
theorem holds.tw12698916279152862973 : True := True.intro
theorem holds.tw7122917452565745793 : True := True.intro
theorem holds.tw4876135695594978501 : True := True.intro
theorem holds.tw1882270145967814011 : True := True.intro
theorem holds.tw15043986215568586124 : True := True.intro
theorem holds.tw17822619038779606285 : True := True.intro
theorem holds.tw14786066558164337950 : True := True.intro
theorem holds.tw6166532556598395850 : True := True.intro
theorem holds.tw2335221107431800076 : True := True.intro
theorem holds.tw10645105620128953169 : True := True.intro
theorem holds.tw15305512045591798990 : True := True.intro
theorem holds.tw16260029586006496120 : True := True.intro
theorem holds.tw1720923818276130593 : True := True.intro
theorem holds.tw12632932662738783937 : True := True.intro
theorem holds.tw14205006904943715905 : True := True.intro
theorem holds.tw5112738896828158680 : True := True.intro
theorem holds.tw14533596452844920548 : True := True.intro
theorem holds.tw2946744036017948005 : True := True.intro
theorem holds.tw14786868411472786527 : True := True.intro
theorem holds.tw10705619171732726748 : True := True.intro
theorem holds.tw3093010850272755244 : True := True.intro
theorem holds.tw2963349702327202441 : True := True.intro
theorem holds.tw4905061745869718969 : True := True.intro
theorem holds.tw13370180491053348 : True := True.intro
theorem holds.tw17858152450515298520 : True := True.intro
theorem holds.tw13341946137322399123 : True := True.intro
theorem holds.tw14085268106739128817 : True := True.intro
theorem holds.tw2041457743892144894 : True := True.intro
theorem holds.tw11311999394344832113 : True := True.intro
theorem holds.tw16880556292197207165 : True := True.intro
theorem holds.tw10973056549479156102 : True := True.intro
theorem holds.tw4583756282420477746 : True := True.intro
theorem holds.tw12788872388335264594 : True := True.intro
theorem holds.tw8277820557490507997 : True := True.intro
theorem holds.tw17779774989671706653 : True := True.intro
theorem holds.tw9188266559522036927 : True := True.intro
theorem holds.tw12633084752571091873 : True := True.intro
theorem holds.tw10859938921441162988 : True := True.intro
theorem holds.tw2667925813562934949 : True := True.intro
theorem holds.tw11111472982789046935 : True := True.intro
theorem holds.tw17476224472650253806 : True := True.intro
theorem holds.tw12733908048491186811 : True := True.intro
theorem holds.tw6027937313243514068 : True := True.intro
theorem holds.tw8451429660923938374 : True := True.intro
theorem holds.tw15203487316939043196 : True := True.intro
theorem holds.tw5078402968320093544 : True := True.intro
theorem holds.tw16035096773351161327 : True := True.intro
theorem holds.tw576298715544257586 : True := True.intro
theorem holds.tw6099975724469302500 : True := True.intro
theorem holds.tw14012497318314112844 : True := True.intro
theorem holds.tw15580662879708500073 : True := True.intro
theorem holds.tw11723004889028688699 : True := True.intro
theorem holds.tw4399152324972305773 : True := True.intro
theorem holds.tw7942442253511216057 : True := True.intro
theorem holds.tw2395109189467087578 : True := True.intro
theorem holds.tw13758948915013449397 : True := True.intro
theorem holds.tw10833007002779762527 : True := True.intro
theorem holds.tw12158838097934144204 : True := True.intro
theorem holds.tw15508503996112656353 : True := True.intro
theorem holds.tw10675174832548182787 : True := True.intro
theorem holds.tw7399101569421298396 : True := True.intro
theorem holds.tw6307330118970589470 : True := True.intro
theorem holds.tw7350330377624401328 : True := True.intro
theorem holds.tw3101148707280403237 : True := True.intro
theorem holds.tw7129523546110730894 : True := True.intro
theorem holds.tw8070350036930755802 : True := True.intro
theorem holds.tw949623864930693503 : True := True.intro
theorem holds.tw16141144775947785660 : True := True.intro
theorem holds.tw10520202591518659360 : True := True.intro
theorem holds.tw8143335708233088440 : True := True.intro
theorem holds.tw11822188140940861840 : True := True.intro
theorem holds.tw5225467491883748592 : True := True.intro
theorem holds.tw14870404945932105118 : True := True.intro
theorem holds.tw12160635655254385198 : True := True.intro
theorem holds.tw5599412692616142259 : True := True.intro
theorem holds.tw5878047611234877577 : True := True.intro
theorem holds.tw15659084048362614264 : True := True.intro
theorem holds.tw13200177327426563521 : True := True.intro
theorem holds.tw9816476011544392670 : True := True.intro
theorem holds.tw7442186320969616419 : True := True.intro
theorem holds.tw4949047195023096438 : True := True.intro
theorem holds.tw9647410926604887880 : True := True.intro
theorem holds.tw5252246860307943348 : True := True.intro
theorem holds.tw13384883100587833847 : True := True.intro
theorem holds.tw8943767207682116370 : True := True.intro
theorem holds.tw7923702915469573346 : True := True.intro
theorem holds.tw6460966521098074893 : True := True.intro
theorem holds.tw6216033271563703469 : True := True.intro
theorem holds.tw6896159741398044905 : True := True.intro
theorem holds.tw5015485144833937494 : True := True.intro
theorem holds.tw15462992800728643659 : True := True.intro
theorem holds.tw154871700347349385 : True := True.intro
theorem holds.tw1876284267304334591 : True := True.intro
theorem holds.tw13150661809386230508 : True := True.intro
theorem holds.tw18173914834931495973 : True := True.intro
theorem holds.tw14977296931134136204 : True := True.intro
theorem holds.tw16898140867199733807 : True := True.intro
theorem holds.tw1213666046027356511 : True := True.intro
theorem holds.tw11450275943994455990 : True := True.intro
theorem holds.tw15814798929938293467 : True := True.intro
theorem holds.tw2207817973478938216 : True := True.intro
theorem holds.tw9370115536473471133 : True := True.intro
theorem holds.tw10698829266838348154 : True := True.intro
theorem holds.tw5274829272982666545 : True := True.intro
theorem holds.tw10269081998898121243 : True := True.intro
theorem holds.tw12306811582311103309 : True := True.intro
theorem holds.tw1552857426587298226 : True := True.intro
theorem holds.tw5619803957841784048 : True := True.intro
theorem holds.tw11750193621415288269 : True := True.intro
theorem holds.tw9157471666820141079 : True := True.intro
theorem holds.tw357486453476387696 : True := True.intro
set_option Elab.async true in
theorem holds : PySem.Challenge.rw_al0016_01.Holds := by
  w_on
  o_law
  o_head (kHook hd.heap_1 kAs (fun _ => by kernel_rfl))
  (case hw => w_witness2)
  lge_go0
  (all_goals try k_fold)
  all_goals (try ((with_reducible rename LGe.Mark => lgeM); clear lgeM))
  (all_goals try k_drop)
  all_goals ((with_reducible rename Top _ _ _ _ _ _ => lgeT0); (have lgeT2 : Top hd.view_39 loos _ _ _ _ := lgeT0))
  (repeat' (first | (k_unfold; (try dsimp only)) | (lge_end; first | ((with_reducible show JoinIfG ..); (k_here; exfalso; first | exact alike_ne (List.reverse_perm _) (by assumption) (by assumption) (by assumption) (by assumption) (by assumption) | exact alike_ne (List.reverse_perm _) (of_decide_eq_true (by assumption)) (by assumption) (by assumption) (by assumption) (by assumption))) | ((with_reducible show JoinIfG ..); k_here; exact ⟨rfl, _, _, _, _, rfl, (by first | assumption | exact AllBare.of_eq (by assumption)), (by first | k_asm | exact fr_same (by k_asm)), newsSub (by k_asm) (by first | (intro p hp; (repeat (first | exact hp | refine List.Mem.tail _ ?_)); done) | (intro p hp; (repeat (first | exact List.mem_append_left _ hp | refine List.Mem.tail _ ?_)); done))⟩) | ((with_reducible show GoodWG _ _ _ _ _ _ _); (refine goodWG_boolF (by assumption) (by assumption) (raisesW_false ?_) ?_); (· wrow_none_raised); (· kc_post); walk_say "CLOSE bool G") | ((with_reducible show EndPost ..); (k_dflt (refine ⟨_, _, _, _, _, _, _, _, rfl, by k_asm, newsSub (by k_asm) (by intro p hp; repeat (first | exact hp | refine' List.Mem.tail _ ?_)), by assumption, by assumption⟩))) | ((with_reducible show TurnPostL ..); (k_dflt (first | (exfalso; first | exact hide_bad1 (by assumption) (by assumption) (by assumption) | exact hide_bad0 (by assumption) (by assumption) (by assumption)) | exact fin_pushL (by assumption) (by assumption) (by k_asm) (by k_asm) (by assumption) (by exact rfl) (by exact rfl) (by exact rfl) (by exact rfl) (by exact rfl) (by k_mem) (by k_mem) (by k_mem) (by k_mem) (by k_mem) (by k_mem) (by walk_at "sub") (by k_mem) (by assumption) (by assumption) (by assumption) | exact fin_resetL (by assumption) (by assumption) (by k_asm) (by k_asm) (by assumption) (by assumption) (by exact rfl) (by exact rfl) (by exact rfl) (by exact rfl) (by exact rfl) (by k_mem) (by k_mem) (by k_mem) (by k_mem) (by k_mem) (by k_mem) (by walk_at "sub") (by k_mem) (by assumption) (by assumption) (by assumption) | exact fin_hideInL (by assumption) (by assumption) (by k_asm) (by k_asm) (by assumption) (by assumption) (by assumption) (by assumption) (by exact rfl) (by exact rfl) (by exact rfl) (by exact rfl) (by exact rfl) (by k_mem) (by k_mem) (by k_mem) (by k_mem) (by k_mem) (by k_mem) (by walk_at "sub") (by k_mem) (by assumption) (by assumption) (by assumption) | exact fin_hideOutL (by assumption) (by assumption) (by k_asm) (by k_asm) (by assumption) (by assumption) (by exact rfl) (by exact rfl) (by exact rfl) (by exact rfl) (by exact rfl) (by k_mem) (by k_mem) (by k_mem) (by k_mem) (by k_mem) (by k_mem) (by walk_at "sub") (by k_mem) (by assumption) (by assumption) (by assumption) | exact fin_pop (by assumption) (by assumption) (by k_asm) (by k_asm) (by assumption) (by assumption) (by assumption) (by assumption) (by exact rfl) (by exact rfl) (by exact rfl) (by exact rfl) (by exact rfl) (by assumption) (by assumption) (by k_mem) (by k_mem) (by k_mem) (by k_mem) (by k_mem) (by k_mem) (by walk_at "sub") (by assumption) (by assumption) | exact fin_same (by assumption) (by assumption) (by k_asm) (by k_asm) (by exact rfl) (by exact rfl) (by exact rfl) (by exact rfl) (by exact rfl) (by k_mem) (by k_mem) (by k_mem) (by k_mem) (by k_mem) (by k_mem) (by walk_at "sub") (by assumption) (by assumption)))) | ((with_reducible show JoinSeq ..); first | (refine ⟨_, _, _, _, _, rfl, rfl, by k_asm, by k_asm, .inr rfl, rfl⟩) | (refine ⟨_, _, _, _, _, rfl, rfl, by k_asm, newsCons (by k_asm) (by k_mem), .inl rfl, rfl⟩)) | ((with_reducible show JoinInt ..); exact ⟨_, _, _, rfl, rfl⟩)) | (k_here; (with_reducible show wpAny _ _ (call (Value.ref _) _ _) _ _ _); first | (k_here; (with_reducible show wpAny _ _ (call (Value.ref 64) _ _) _ _ _); k_dflt (refine' addvar2 (by walk_at "gd") (by k_asm) (by k_asm) (by k_mem) (by k_mem) (by k_mem) (by k_mem) (by k_mem) (by k_mem) (by k_mem) (by k_mem) (by assumption) (by walk_at "sub") (by walk_at "ne") (by walk_at "ne") (by walk_at "ne") (by walk_at "ne") (by walk_at "ne") (by walk_at "ne") (by walk_at "ne") (by assumption) (by assumption) (by walk_at "ne") (by exact ne_len (by assumption) (by assumption)) ?_); intro x' dx' ha' sa' h' tk' n' u1 u2 h4 h5 o' F' N' ho' q1 q2 q3 q4; (try k_sweep)) | (k_here; (with_reducible show wpAny _ _ (call (Value.ref 350) _ _) _ _ _); k_dflt (refine' hide_any (by walk_at "gd") (by k_asm) (by walk_at "nw") (by walk_at "ne") (by walk_at "ne") (by walk_at "ne") (by walk_at "off") (by walk_at "off") (by walk_at "off") (by assumption) (by assumption) (by assumption) ?_ ?_); (intro h' tk n' c' t vs' hv i' F' N'; (have hGood := Good.hideIn (LIP.good (by assumption)) (by assumption) hv); (try k_sweep)); rotate_left; (intro h' tk hv F' N'; (have hGood := Good.hideOut' (LIP.good (by assumption)) hv); (try k_sweep)); rotate_left) | (k_here; (with_reducible show wpAny _ _ (call (Value.ref 357) _ _) _ _ _); k_dflt (refine' empty_pop (by walk_at "gd") (by k_asm) (by walk_at "nw") (by walk_at "ne") (by walk_at "off") (by walk_at "off") ?_); intro h' tk F' N'; (try (have hGood := LIP.good (by assumption))); (try k_sweep)) | (k_here; (with_reducible show wpAny _ _ (call (Value.ref 240) _ _) _ _ _); k_dflt (refine' reset_spec (by walk_at "gd") (by k_asm) (by walk_at "nw") (by walk_at "ne") (by walk_at "ne") (by walk_at "ne") (by walk_at "ne") (by walk_at "ne") (by walk_at "ne") (by walk_at "off") (by walk_at "off") (by walk_at "off") (by walk_at "off") (by assumption) (by assumption) (by walk_at "ne") (by walk_at "ne") (by first | exact Nat.zero_le _ | (simp only [List.length_append, List.length_singleton]; omega) | omega) ?_); intro h' tk n' c' c2' vs' i1' F' N'; (first | (have hGood := Good.reset (by assumption)) | (have hGood := Good.reset (LIP.good (by assumption)))); (try k_sweep)) | (k_here; (with_reducible show wpAny _ _ (call (Value.ref 254) _ _) _ _ _); k_dflt (refine' pop_spec (by walk_at "gd") (by k_asm) (by walk_at "nw") (by walk_at "ne") (by walk_at "ne") (by walk_at "ne") (by walk_at "ne") (by walk_at "ne") (by walk_at "ne") (by walk_at "off") (by walk_at "off") (by walk_at "off") (by walk_at "off") (by assumption) (by assumption) (by walk_at "ne") (by walk_at "ne") (by walk_at "ne") (by walk_at "ne") (by walk_at "ne") ?_); intro h' tk n' c' c2' vs' hs' F' N' i1' i2'; (first | (have hGood := Good.pop (by assumption)) | (have hGood := Good.pop (LIP.good (by assumption)))); (try k_sweep)) | (k_here; (with_reducible show wpAny _ _ (call (Value.ref 247) _ _) _ _ _); k_dflt (refine' push_spec (by walk_at "gd") (by k_asm) (by walk_at "nw") (by walk_at "ne") (by walk_at "ne") (by walk_at "ne") (by walk_at "ne") (by walk_at "ne") (by walk_at "ne") (by walk_at "off") (by walk_at "off") (by walk_at "off") (by walk_at "off") (by assumption) (by assumption) (by first | exact Nat.zero_le _ | (simp only [List.length_append, List.length_singleton]; omega)) ?_); intro h' tk t c F' N'; (have hGood := Good.push (LIP.good (by assumption))); (try k_sweep)) | (k_here; (with_reducible show wpAny _ _ (call (Value.ref 343) _ _) _ _ _); k_dflt (refine' alike_spec (by walk_at "gd") (by k_asm) (by k_asm) (by k_mem) (by k_mem) (by k_mem) (by assumption) (by assumption) (by first | assumption | exact Nat.le_trans (Good.lenD (by assumption)) (by assumption)) (by first | assumption | exact Nat.le_trans (Good.lenM (by assumption)) (by assumption) | (rw [fold_filter, List.nil_append]; exact Nat.le_trans (Good.lenM (by assumption)) (by assumption))) (by first | exact List.Perm.refl _ | assumption | exact Good.same (by assumption) | (rw [fold_filter, List.nil_append]; exact Good.same (by assumption))) ?_); intro h' tk F' N'; (try k_sweep))) | (k_here; (with_reducible show wpAny _ _ (pyIter (Value.ref _)) _ _ _); first | ((with_reducible show wpAny _ _ (pyIter (Value.ref _)) (fun it s₂ => LoopAtV _ _ _ _ _ _ _ _ _ it s₂) _ _); (with_reducible rename Fr _ _ _ _ => lF'); (with_reducible rename News _ _ _ _ => lN'); k_dflt (refine' law_loop1 (by exact rfl) (by exact rfl) lF' lN' (by assumption) (by assumption) (by assumption) (by assumption) (by assumption) (by assumption) (by omega) (by omega) (by omega) (by omega) (by omega) (by omega) (by omega) (by omega) (by omega) (by omega) (by omega) (by omega) (by exact rfl) (by exact rfl) (by exact rfl) (by exact rfl) (by exact rfl) ?_ ?_ ?_); clear lF' lN'; (intro i n t m₁ h' tk sv hv D H M vs hs us nn c1 c2 c3 c4 ocv u rest rest' hi30 hsub P T F' N'; cases T; (try k_fold)); rotate_left; (intro i n t m₁ h' tk sv hv D H M vs hs us nn c1 c2 c3 c4 ocv u rest rest' q W st ss tq ws a us' cW hi30 hsub P T iss iws ma ma' ia ls lw q1 q2 F' N'; cases T; (try k_fold)); rotate_left; (intro u m₁ h' tk sv hv D H M st vs hs ss ws us nn c1 c2 c3 c4 ocv u' rest P T ls lw F' N'; (try k_fold)); rotate_left) | ((with_reducible show wpAny _ _ (pyIter (Value.ref _)) (fun it s₂ => LoopAtV _ _ _ _ _ _ _ _ _ it s₂) _ _); (with_reducible rename IsRange _ _ _ _ _ _ _ _ => rgX); (with_reducible rename Fr _ _ _ _ => lF'); (with_reducible rename News _ _ _ _ => lN'); k_dflt (refine' law_ends (by exact rfl) (by exact rfl) rgX lF' lN' (by assumption) (by assumption) (by assumption) (by walk_at "sub") ?_ ?_); clear lF' lN' rgX; (intro i t h' tk D H M q W st vs hs ss tq nn c1 c2 a us' cW rest' hi30 g T iss ls q1 q2 hget ma ia hsub F' N'; cases T; (try dsimp only [LedE] at N'); (try k_fold)); rotate_left; (intro u h' tk D H M vs hs nn c1 c2 g T F' N'; cases T; (try dsimp only [LedE] at N'); (try k_fold)); rotate_left)) | (k_here; first | ((with_reducible show wpAny _ _ (eval (PySem.Expr.IfExp ..) _) _ _ _); first | (k_here; (with_reducible show wpAny _ _ (eval (PySem.Expr.IfExp (PySem.Expr.Compare (PySem.Expr.Call _ _ _ _) _ _ _) _ _ _) _) _ _ _); k_dflt (refine' join_list (by k_asm) (by k_asm) (IfExp_ ?_) ?_); rotate_left; intro l vs ns c h' tk F' N' hAllLt hI hle; (try k_sweep); rotate_left) | (k_here; (with_reducible show wpAny _ _ (eval (PySem.Expr.IfExp (PySem.Expr.Compare (PySem.Expr.BinOp _ _ _ _) _ _ _) _ _ _) _) _ _ _); (with_reducible rename IntsAre _ (List.foldl _ _ _) => hGs); (obtain ⟨gs, hGs', hNd, hG9⟩ := given_facts hGs); clear hGs; k_dflt (refine' join_seq (by k_asm) (by k_asm) (by k_mem) (IfExp_ ?_) ?_); rotate_left; intro b oi ni h' tk F' N' c1 c2; (try k_sweep); rotate_left) | (k_here; (with_reducible show wpAny _ _ (eval (PySem.Expr.IfExp (PySem.Expr.Name _ _) _ _ _) _) _ _ _); (with_reducible refine' join_int (IfExp_ ?_) ?_); rotate_left; intro n t tk; rotate_left)) | ((with_reducible show wpAny _ _ (exec (PySem.Stmt.For ..) _) _ _ _); first | (k_here; (rename Fr _ _ _ _ => lF'); (with_unfolding_all refine' For_invVF lF' (by exact rfl) (by exact rfl) ?_; k_whole))) | ((with_reducible show wpAny _ _ (compareOp CmpOp.NotEq (Value.ref _) (Value.ref _)) _ _ _); first | (k_here; (with_reducible show wpAny _ _ (compareOp CmpOp.NotEq (Value.ref _) (Value.ref _)) _ _ _); k_dflt (refine' ne_nilK (by k_asm) (by k_mem) (by k_mem) (by first | units_room | exact Nat.le_of_ble_eq_true rfl) ?_))) | ((with_reducible show wpAny _ _ (call (Value.builtin "list.append") _ _) _ _ _); first | (k_here; k_dflt (refine' append_K (by k_asm) (by k_asm) (by k_upd) ?_ (by size_fits)); intro h' F' N'; (try simp only [List.push_toArray] at N'); (try k_sweep))) | ((with_reducible show wpAny _ _ (callWith _ (Value.ref _) _ _ _) _ _ _); first | (k_here; (with_reducible show wpAny _ _ (callWith _ (Value.ref _) _ (backTo _ (starEach [] _)) []) _ _ _); k_dflt (refine' callWith_K0 (by exact Frag.In.keeps (by k_asm) (Fr.keep (by k_asm))) (by k_is) ?_; k_whole)) | (k_here; k_dflt (refine' callWith_K (by k_asm) (by k_is) ?_; k_whole))) | ((with_reducible show wpAny _ _ (call (Value.builtin "len") _ _) _ _ _); first | (k_here; (with_reducible show wpAny _ _ (call (Value.builtin _) [Value.ref _]) _ _ _); k_dflt (refine' len_led (by k_asm) (by k_mem) (by first | omega | size_fits) ?_))) | ((with_reducible show wpAny _ _ (subscriptTail _ (PySem.Expr.BinOp ..) (Value.ref _) (Value.int _ _)) _ _ _); first | (k_here; k_dflt (refine' item_back (by k_asm) (by k_mem) (by assumption) (by assumption) (by assumption) (by omega) ?_ (by with_unfolding_all rfl)))) | ((with_reducible show wpAny _ _ (eval (PySem.Expr.Dict ..) _) _ _ _); first | (k_here; k_dflt (refine' newDict_K (by k_asm) (by k_asm) (by first | exact Top.nolimit (by k_asm) | exact TopRead.nolimit (by k_asm)) ?_; k_whole); intro d' h' o' F' N' l1 lo' hs' fs' hi' fi'; clear fs' hi' fi'; (try k_lt l1); (try k_sweep))) | ((with_reducible show wpAny _ _ (exec (PySem.Stmt.If ..) _) _ _ _); first | (k_here; (with_reducible show wpAny _ _ (exec (PySem.Stmt.If (PySem.Expr.Compare (PySem.Expr.Name _ _) _ [PySem.Expr.List _ _] _) _ [] _) _) _ _ _); (fail_if_success (with_reducible show wpAny _ _ _ (JoinIfG _ _ _ _ _ _) _ _)); k_dflt (refine' join_ifG (y := PySem.Str.ofString "problem") (by k_asm) (by k_asm) ?_ ?_); rotate_left; intro u h' tk gg' hb' F' N'; (try k_sweep); rotate_left)) | ((with_reducible show wpAny _ _ (call (Value.builtin "sorted") _ _) _ _ _); first | (k_here; (with_reducible show wpAny _ _ (call (Value.builtin _) [Value.ref _]) _ _ _); k_dflt (refine' kso_sorted (by k_asm) (by k_asm) (by exact News.isList (by k_asm) (by k_mem)) (by assumption) (by first | omega | (rw [List.length_reverse]; omega)) ?_); intro D' v' n' c' h' F' N' l1 i' e' p' o' b'; clear b'; (try k_lt l1); (try k_sweep)))) | walk1 | (dsimp only; walk1) | (leave1; walk_say "STEP leave1"; (try dsimp only)) | fail "no step"))
  (all_goals (try k_data))
  all_goals w_report

end PartMain

end Walks
end Mine
theorem PySem.Challenge.cw_al0016_01_holds : PySem.Challenge.rw_al0016_01.Holds :=
  Mine.holds
