import PyProof.Rows.All
import Wide.All
import OpenK.AllK
import Wide.FinOn
import PySem.Challenge.RW_ee5012_01
set_option Elab.async false
section
open PySem PySem.W PyProof.Rows
set_option maxRecDepth 100000
set_option maxHeartbeats 8000000
namespace Mine
local macro_rules | `(tactic| k_head) => `(tactic| x_head)
open_top hd for PySem.Challenge.rw_ee5012_01
end Mine
end
section
open PySem PySem.W PySem.W.X PyProof.Rows
set_option maxRecDepth 100000
set_option maxHeartbeats 80000000
namespace Mine
abbrev PG : Program := PySem.Challenge.rw_ee5012_01.row.prog
/-- a number object of the text's own class -/
abbrev numO (d : Addr) (k : Int) (t : Tok) : Obj := ⟨.ref 145, some d, .prim (.int k t), #[]⟩
abbrev nameO (d : Addr) (t : Tok) : Obj := ⟨.ref 210, some d, .prim (.str ⟨#[47, 83, 116]⟩ t), #[]⟩
abbrev entO (d : Addr) (H : Int) (ka va : Addr) : Obj := ⟨.ref 324, some d, .dict #[⟨H, .ref ka, .ref va⟩] 1, #[]⟩
abbrev arrO (d : Addr) (vs : Array Value) (n : Nat) : Obj := ⟨.ref 260, some d, .seq vs n, #[]⟩
/-- room enough for what is run by the engine -/
def A9 : Around := { handled := none, depth := 600, frames := none, guards := none, units := 3000 }
theorem weaken {α : Type} {M : Model} {A : Around} {t : Sem α} {Q : α → Shared → Prop} {E : Value → Shared → Prop} {s : Shared}
    (h1 : A.handled = none) (h2 : A.depth ≤ 600) (h3 : A.units ≤ 3000) (h : wpAny M A9 t Q E s) : wpAny M A t Q E s := by
  intro Γ p hΓ
  refine h Γ p ⟨hΓ.1.trans h1, Nat.le_trans hΓ.2.1 h2, fun l hl => ?_, fun l hl => ?_, Nat.le_trans hΓ.2.2.2.2 h3⟩
  · cases hl
  · cases hl

section
variable {h₀ h h' : Heap} {L : Addr} {m : Str → Option Value} {nw news : List (Addr × Obj)}
theorem mem_keep (D : Mem h h' [] nw) : ∀ b o, h.get? b = some o → h'.get? b = some o := fun b o e => D.keep b o e (by unfold away; rw [List.all_nil, Bool.or_true])
theorem fr_keep (F : Fr h₀ L h m) (k : ∀ b o, h.get? b = some o → h'.get? b = some o) : Fr h₀ L h' m :=
  ⟨F.ns.keeps k, fun b o e => k _ _ (F.keep b o e), F.above⟩
theorem news_keep (N : News h₀ L h news) (k : ∀ b o, h.get? b = some o → h'.get? b = some o) : News h₀ L h' news := fun p hp => ⟨k _ _ (N p hp).1, (N p hp).2⟩
theorem new_of (F : Fr h₀ L h m) {a : Addr} {o : Obj} (h1 : h'.get? a = some o) (h2 : h.get? a = none) : h'.get? a = some o ∧ a ≠ L ∧ h₀.get? a = none := by
  obtain ⟨oL, _, _, hL, _⟩ := F.ns
  refine ⟨h1, ?_, ?_⟩
  · intro z; rw [z, hL] at h2; cases h2
  · cases q : h₀.get? a with
    | none => rfl
    | some o' => rw [F.keep _ _ q] at h2; cases h2
theorem news_add (F : Fr h₀ L h m) (N : News h₀ L h news) (D : Mem h h' [] nw) : News h₀ L h' (nw ++ news) := fun p hp => by
  rcases List.mem_append.mp hp with q | q
  · exact new_of F (D.nw p q).1 (D.nw p q).2
  · exact news_keep N (mem_keep D) p q
theorem off_of (N : News h₀ L h news) {a : Addr} (h2 : h.get? a = none) : ∀ p ∈ news, p.1 ≠ a := fun p hp z => by
  have := (N p hp).1; rw [z, h2] at this; cases this
end

/-- what a call that only makes objects hands back -/
def MadePost (s : Shared) (P : Value → List (Addr × Obj) → Prop) (v : Value) (s' : Shared) : Prop :=
  ∃ tk h' nw, s' = { s with heap := h', toks := tk } ∧ Mem s.heap h' [] nw ∧ P v nw

local macro_rules | `(tactic| x_close) => `(tactic| (refine ⟨_, _, _, rfl, (by assumption), ?_⟩; first
  | exact ⟨_, _, _, rfl, .head _⟩
  | exact ⟨_, _, rfl, .head _, .tail _ (.head _)⟩))
theorem run_number {w : World} {s : Shared} {E : Value → Shared → Prop} (k : Int) (t : Tok) (X : (hd.heap_39 w.params).In s.heap) :
    wpAny (model PG w) A9 (call (.ref 145) [.int k t] []) (MadePost s fun v nw => ∃ a d t', v = .ref a ∧ (a, numO d k t') ∈ nw) E s := by
  x_run
theorem run_array0 {w : World} {s : Shared} {E : Value → Shared → Prop} (X : (hd.heap_39 w.params).In s.heap) :
    wpAny (model PG w) A9 (call (.ref 260) [] []) (MadePost s fun v nw => ∃ a d, v = .ref a ∧ (a, arrO d #[] 0) ∈ nw ∧ (d, W.dictOf [] 0) ∈ nw) E s := by
  x_run
end Mine
end
section
open PySem PySem.W PySem.W.X PyProof.Rows
set_option maxRecDepth 100000
set_option maxHeartbeats 80000000
namespace Mine
section
variable {M : Model} {A : Around} {E : Value → Shared → Prop} {s : Shared} {x C : Addr} {ox : Obj} {w : World}

/-- an object of an own class: its type is looked up -/
theorem own_type {h : Heap} (ho : h.get? x = some ox) (hc : ox.cls = .ref C) : Looks M h (typeOf (.ref x)) (.ref C) := by
  subst_vars
  exact (Looks.ld ho).andThen (by rw [hc]; exact .now)
theorem own_inst {h : Heap} {base : Value} {b : Bool} (X : (hd.heap_39 w.params).In h) (ho : h.get? x = some ox) (hc : ox.cls = .ref C) (hb : mroIn (hd.heap_39 w.params) C base = some b) : Looks M h (isInstance (.ref x) base) b :=
  (own_type ho hc).andThen (looks_mroIn X hb)
theorem own_special {h : Heap} {name : Str} {r : Option Value} (X : (hd.heap_39 w.params).In h) (ho : h.get? x = some ox) (hc : ox.cls = .ref C) (hl : findIn (hd.heap_39 w.params) (.ref C) name = some r) : Looks M h (specialOf (.ref x) name) r :=
  (own_type ho hc).andThen (looks_findIn X hl)

theorem check_own {i owner n : String} {self : Value} {rest : List Value} {Q : Unit → Shared → Prop}
    (hk : builtinKind i = some .slot ∨ builtinKind i = some .method) (hs : splitId i = some (owner, n)) (hi : Looks M s.heap (isInstance self (.type owner)) true) (ha : argsOk i ⟨self :: rest, []⟩) (q : Q () s) :
    wpAny M A (checkBuiltinCall i ⟨self :: rest, []⟩) Q E s := by
  rcases hk with hk | hk <;>
  · simp only [checkBuiltinCall, hk, hs]
    refine wpAny_bind (hi.here ?_)
    simp only [Bool.not_true, Bool.false_eq_true, if_false]
    cases hsig : Manifest.signature? i with
    | none => exact wpAny_pure q
    | some sig =>
      simp only [argsOk, hsig] at ha
      have h2 : Bind.checkArgs i sig ⟨self :: rest, []⟩ = pure () := ha
      show wpAny M A (Bind.checkArgs i sig ⟨self :: rest, []⟩) Q E s
      rw [h2]; exact wpAny_pure q

/-- a call of a built-in method upon an object whose type descends from the method's owner -/
theorem call_own {prog : Program} {i owner n : String} {B : Builtin} {self : Value} {rest : List Value} {Q : Value → Shared → Prop}
    (plain : plainId i = true) (entry : entryFor table i = some B)
    (hk : builtinKind i = some .slot ∨ builtinKind i = some .method) (hs : splitId i = some (owner, n)) (hi : Looks (model prog w) s.heap (isInstance self (.type owner)) true) (ha : argsOk i ⟨self :: rest, []⟩)
    (h : wpAny (model prog w) A.in1 (B ⟨self :: rest, []⟩) (fun fin s' => match fin with | .done f => wants Q E (.ok f) s' | .again c' => c'.quiet = true ∧ codeAny (model prog w) A c' (wants Q E) s') (fun e s' => wants Q E (.error e) s') s) :
    wpAny (model prog w) A (call (.builtin i) (self :: rest)) Q E s :=
  wpAny_call (codeAny_call_builtin plain entry (check_own hk hs hi ha h))

/-- a special method that is a built-in one -/
theorem special_own {prog : Program} {name : Str} {i : String} {args : List Value} {Q : Option Value → Shared → Prop} (X : (hd.heap_39 w.params).In s.heap) (ho : s.heap.get? x = some ox) (hc : ox.cls = .ref C)
    (hl : findIn (hd.heap_39 w.params) (.ref C) name = some (some (.builtin i))) (hb : bindSpecial (.builtin i) (.ref x) = pure (.builtin i, [.ref x]))
    (h : wpAny (model prog w) A (call (.builtin i) (.ref x :: args)) (fun v => Q (some v)) E s) : wpAny (model prog w) A (callSpecial? (.ref x) name args) Q E s := by
  unfold callSpecial?
  refine wpAny_bind ((own_special X ho hc hl).here (wpAny_holding ?_))
  rw [hb]
  exact wpAny_bind (wpAny_pure (wpAny_bind (wpAny_mono h (fun _ _ q => wpAny_pure q) fun _ _ q => q)))
end

section
variable {A : Around} {E : Value → Shared → Prop} {s : Shared} {w : World} {na d : Addr} {vs : Array Value} {ep : Nat}
theorem arr_is (X : (hd.heap_39 w.params).In s.heap) (ha : s.heap.get? na = some (arrO d vs ep)) : Looks (model PG w) s.heap (isInstance (.ref na) (.type "list")) true :=
  own_inst X ha rfl (by kernel_rfl)
theorem arr_len {Q : Value → Shared → Prop} (X : (hd.heap_39 w.params).In s.heap) (ha : s.heap.get? na = some (arrO d vs ep)) (hz : vs.size ≤ 1000)
    (h : Q (.int vs.size (s.toks + 1)) { s with toks := s.toks + 1 + 1 }) : wpAny (model PG w) A (call (.builtin "len") [.ref na]) Q E s := by
  refine wpAny_call (codeAny_call_builtin (by decide +kernel) (entryFor_of_tree (by kernel_rfl) : entryFor table "len" = some Builtin.«len») ?_)
  have hk : checkBuiltinCall "len" ⟨[.ref na], []⟩ = pure () := by kernel_rfl
  rw [hk]
  refine wpAny_pure ?_
  obtain ⟨h0, g, dr, tk, os⟩ := s
  have hi := arr_is X ha
  have sp : ∀ {A : Around} {Q : Option Value → Shared → Prop} {E : Value → Shared → Prop}, Q (some (.int vs.size tk)) ⟨h0, g, dr, tk + 1, os⟩ → wpAny (model PG w) A (callSpecial? (.ref na) "__len__") Q E ⟨h0, g, dr, tk, os⟩ := fun {A Q E} hq =>
    special_own X ha rfl (by kernel_rfl) (PySem.F.slot_list_len.bind _) (call_own (by decide +kernel) PySem.F.entry_list_len (owner := "list") (n := "__len__") (.inl (by decide +kernel)) (by decide +kernel) hi (PySem.F.args_list_len_1 _) (by
      wp_walk using (wpAny_loadPart' ha)
      exact hq))
  wp_walk using sp
  rw [if_neg (by omega)]
  wp_walk
  exact h

theorem arr_seqKey {k : Value} {name : Str} {Q : Value → Shared → Prop} (X : (hd.heap_39 w.params).In s.heap) (ha : s.heap.get? na = some (arrO d vs ep)) (h : Q k s) : wpAny (model PG w) A (sequenceKey (.ref na) k name) Q E s := by
  unfold sequenceKey
  refine wpAny_bind ((own_type ha rfl).here ?_)
  have hb : Looks (model PG w) s.heap (isSubtype (.ref 260) (.type "collections.deque")) false := looks_mroIn X (by kernel_rfl)
  have ht : Looks (model PG w) s.heap (seqItemTypes.anyM fun n => isSubtype (.ref 260) (.type n)) false := by
    unfold seqItemTypes
    exact hb.andThen .now
  refine wpAny_bind (ht.here ?_)
  simp only [Bool.not_false, if_true]
  exact wpAny_pure h
theorem arr_getItem {k : Nat} {i : Int} {u : Tok} {x : Value} {Q : Value → Shared → Prop} (X : (hd.heap_39 w.params).In s.heap) (ha : s.heap.get? na = some (arrO d vs ep)) (hi : i = (k : Int)) (hz : k < 1000) (hx : vs[k]? = some x)
    (h : Q x s) : wpAny (model PG w) A (getItem (.ref na) (.int i u)) Q E s := by
  unfold getItem
  refine wpAny_holding (wpAny_bind (arr_seqKey X ha (wpAny_bind (special_own X ha rfl (by kernel_rfl) (PySem.F.slot_list_getitem.bind _) (call_own (by decide +kernel) PySem.F.entry_list_getitem (owner := "list") (n := "__getitem__") (.inr (by decide +kernel)) (by decide +kernel) (arr_is X ha) (PySem.F.args_list_getitem_2 _ _) ?_)))))
  show wpAny _ _ (Builtin.List.listSubscript? (.int i u) >>= _) _ _ s
  refine wpAny_bind (wpAny_listSubscript_int (fitsIndex_of (by omega) (by omega)) ?_)
  subst hi
  show wpAny _ _ ((seqItemAt na k >>= fun r => pure (r.map (k, ·))) >>= _) _ _ s
  refine wpAny_bind (wpAny_bind (wpAny_seqItemAt ha rfl (wpAny_pure ?_)))
  rw [hx]
  exact wpAny_pure (wpAny_pure h)

theorem arr_sub {value slice : Expr} {k : Nat} {i : Int} {u : Tok} {x : Value} {Q : Value → Shared → Prop} (X : (hd.heap_39 w.params).In s.heap) (ha : s.heap.get? na = some (arrO d vs ep)) (hi : i = (k : Int)) (hz : k < 1000) (hx : vs[k]? = some x)
    (h : Q x s) (hs : subscripted slice false (.ref na) (.int i u) = operate [.ref na, .int i u] (getItem (.ref na) (.int i u)) := by with_unfolding_all rfl) :
    wpAny (model PG w) A (subscriptTail value slice (.ref na) (.int i u)) Q E s := by
  unfold subscriptTail
  have hg : Looks (model PG w) s.heap (getitemInPython (.ref na)) false := by
    unfold getitemInPython
    exact (own_special X ha rfl (r := some (.builtin "list.__getitem__")) (by kernel_rfl)).andThen .now
  refine wpAny_bind (hg.here ?_)
  rw [hs]
  exact wpAny_bind (wpAny_operating (arr_getItem X ha hi hz hx (wpAny_bind (wpAny_letTemporaryGo (wpAny_pure h)))))

theorem arr_setItem {k : Nat} {i : Int} {u : Tok} {v : Value} {Q : Unit → Shared → Prop} (X : (hd.heap_39 w.params).In s.heap) (ha : s.heap.get? na = some (arrO d vs ep)) (hi : i = (k : Int)) (hz : k < 1000) (hx : k < vs.size)
    (h : Q () { s with heap := s.heap.update na (Obj.mapSeq fun ys => ys.setIfInBounds k v) }) : wpAny (model PG w) A (setItem (.ref na) (.int i u) v) Q E s := by
  unfold setItem
  refine wpAny_holding (wpAny_bind (arr_seqKey X ha (wpAny_bind (special_own X ha rfl (by kernel_rfl) (PySem.F.slot_list_setitem.bind _) (call_own (by decide +kernel) PySem.F.entry_list_setitem (owner := "list") (n := "__setitem__") (.inl (by decide +kernel)) (by decide +kernel) (arr_is X ha) (PySem.F.args_list_setitem_3 _ _ _) ?_)))))
  show wpAny _ _ (Builtin.List.listSubscript? (.int i u) >>= _) _ _ s
  refine wpAny_bind (wpAny_listSubscript_int (fitsIndex_of (by omega) (by omega)) ?_)
  subst hi
  have hx' : vs[k]? = some vs[k] := by simp [hx]
  show wpAny _ _ ((seqItemAt na k >>= fun r => pure (r.map (k, ·))) >>= _) _ _ s
  refine wpAny_bind (wpAny_bind (wpAny_seqItemAt ha rfl (wpAny_pure ?_)))
  rw [hx']
  show wpAny _ _ (setSeqItemAt na k v >>= _) _ _ s
  refine wpAny_bind (wpAny_setSeqItemAt ha rfl ?_)
  first
    | exact wpAny_bind (wpAny_pure (wpAny_pure h))
    | exact wpAny_pure (wpAny_pure h)
    | exact wpAny_pure h

/-- a method of the built-in list, met on an own list object -/
theorem arr_method {name : Str} {i : String} {es : Nat} {pl : Sem Bool} {Q : Value × List Value → Shared → Prop} (X : (hd.heap_39 w.params).In s.heap) (ha : s.heap.get? na = some (arrO d vs ep)) (hdd : s.heap.get? d = some (W.dictOf [] es))
    (hl : findIn (hd.heap_39 w.params) (.ref 260) name = some (some (.builtin i))) (ht : typeOf (.builtin i) = pure (.type "method_descriptor")) (h : Q (.builtin i, [.ref na]) s) :
    wpAny (model PG w) A (getMethod (.ref na) name pl) Q E s := by
  have hcan : Manifest.canonical "list.__getattribute__" = "object.__getattribute__" := by decide +kernel
  unfold getMethod
  refine wpAny_bind ((own_special X ha rfl (r := some (.builtin "list.__getattribute__")) (by kernel_rfl)).here ?_)
  dsimp only
  rw [hcan, if_neg (by decide)]
  refine wpAny_bind ((own_special X ha rfl (r := none) (by kernel_rfl)).here ?_)
  refine wpAny_bind ((own_special X ha rfl hl).here ?_)
  dsimp only
  refine wpAny_bind ?_
  rw [ht]
  refine wpAny_pure ?_
  rw [if_neg (by decide +kernel)]
  refine wpAny_bind (wpAny_loadPart ha ?_)
  dsimp only
  have hn : s.heap.Ns d fun _ => none := ⟨_, _, _, hdd, rfl, fun e he => by simp at he, fun _ => rfl⟩
  refine wpAny_bind (wpAny_nsGet hn ?_)
  simp only [Option.isSome_none, Bool.false_eq_true, if_false]
  exact wpAny_bind (wpAny_rule (wpAny_pure h))

theorem arr_insert {k : Nat} {i : Int} {u : Tok} {v : Value} {Q : Value → Shared → Prop} (X : (hd.heap_39 w.params).In s.heap) (ha : s.heap.get? na = some (arrO d vs ep)) (hi : i = (k : Int)) (hz : vs.size < 1000) (hx : k ≤ vs.size)
    (h : Q .none { s with heap := s.heap.update na (Obj.mapSeq fun xs => have k := if i < 0 then (i + (xs.size : Int)).toNat else min i.toNat xs.size; (xs.extract 0 k).push v ++ xs.extract k) }) : wpAny (model PG w) A (call (.builtin "list.insert") [.ref na, .int i u, v]) Q E s := by
  refine call_own (by decide +kernel) PySem.F.entry_list_insert (owner := "list") (n := "insert") (.inr (by decide +kernel)) (by decide +kernel) (arr_is X ha) (PySem.F.args_list_insert_3 _ _ _) ?_
  have hz0 : vs.size ≤ sizeLine := by rw [sizeLine_eq]; omega
  have hz' : ((fun xs : Array Value => have k := if i < 0 then (i + (xs.size : Int)).toNat else min i.toNat xs.size; (xs.extract 0 k).push v ++ xs.extract k) vs).size ≤ sizeLine + 1 := Nat.le_trans (AutoSeq1.size_inserted vs _ _) (Nat.add_le_add_right hz0 1)
  have f1 := AutoSeq1.idx_int
  have hc0 : ¬(!Builtin.List.listFitsIndex i) = true := by rw [fitsIndex_of (by omega) (by omega)]; decide
  obtain ⟨h0, g, dr, tk, os⟩ := s
  wp_walk using (wpAny_loadPart' ha)
  rw [if_neg hc0]
  wp_walk using (wpAny_updateSeq ha rfl (hz := hz0) (_hz' := hz')), (wpAny_loadPart' ha)
  exact h

theorem arr_pop {k : Nat} {i : Int} {u : Tok} {v : Value} {Q : Value → Shared → Prop} (X : (hd.heap_39 w.params).In s.heap) (ha : s.heap.get? na = some (arrO d vs ep)) (hi : i = (k : Int)) (hz : vs.size < 1000) (hx : vs[k]? = some v)
    (h : Q v { s with heap := s.heap.update na (Obj.mapSeq fun xs => xs.eraseIdxIfInBounds k) }) : wpAny (model PG w) A (call (.builtin "list.pop") [.ref na, .int i u]) Q E s := by
  refine call_own (by decide +kernel) PySem.F.entry_list_pop (owner := "list") (n := "pop") (.inr (by decide +kernel)) (by decide +kernel) (arr_is X ha) (PySem.F.args_list_pop_2 _ _) ?_
  have hz0 : vs.size ≤ sizeLine := by rw [sizeLine_eq]; omega
  have f1 := AutoSeq1.idx_int
  have hlt : k < vs.size := by
    apply Nat.lt_of_not_le
    intro q
    rw [Array.getElem?_eq_none q] at hx
    cases hx
  have hc0 : ¬(!Builtin.List.listFitsIndex i) = true := by rw [fitsIndex_of (by omega) (by omega)]; decide
  have hne : ¬ vs.isEmpty = true := by
    intro he
    have : vs.size = 0 := by simpa using he
    omega
  have hk : seqIndex? i vs.size = some k := by rw [seqIndex_of (by omega) (by omega)]; congr 1; omega
  have hz' : ((fun xs : Array Value => xs.eraseIdxIfInBounds k) vs).size ≤ sizeLine + 1 := Nat.le_trans (MeetsSeq.size_erased vs k) (Nat.le_succ_of_le hz0)
  obtain ⟨h0, g, dr, tk, os⟩ := s
  wp_walk using (wpAny_loadPart' ha)
  rw [if_neg hc0]
  wp_walk using (wpAny_loadPart' ha)
  simp only [hk, hx, Option.bind_some, Option.map_some]
  wp_walk using (wpAny_updateSeq ha rfl (hz := hz0) (_hz' := hz')), (wpAny_loadPart' ha)
  exact h
end
end Mine
end
section
open PySem PySem.W PySem.W.X PyProof.Rows
set_option maxRecDepth 100000
set_option maxHeartbeats 80000000
namespace Mine
/-- a comparison's answer, the heap as it was -/
def BoolPost (s : Shared) (b : Bool) (v : Value) (s' : Shared) : Prop := v = .bool b ∧ ∃ tk, s' = { s with toks := tk }
def NotImpl (s : Shared) (v : Value) (s' : Shared) : Prop := v = .notImplemented ∧ ∃ tk, s' = { s with toks := tk }
theorem bool_is {p : Prop} [Decidable p] {b : Bool} (h : b = true ↔ p) : Value.bool b = Value.bool (decide p) := by
  congr 1
  cases b <;> simp_all
local macro_rules | `(tactic| x_close) => `(tactic| first
  | exact ⟨rfl, _, rfl⟩
  | exact ⟨bool_is (by simp; omega), _, rfl⟩)
section
variable {w : World} {s : Shared} {E : Value → Shared → Prop} {a b d1 d2 : Addr} {k j : Int} {t u : Tok}
theorem run_le_nn (X : (hd.heap_39 w.params).In s.heap) (ha : s.heap.get? a = some (numO d1 k t)) (hb : s.heap.get? b = some (numO d2 j u)) :
    wpAny (model PG w) A9 (call (.builtin "int.__le__") [.ref a, .ref b] []) (BoolPost s (decide (k ≤ j))) E s := by (try unfold numO at ha); (try unfold numO at hb); x_run
theorem run_eq_nn (X : (hd.heap_39 w.params).In s.heap) (ha : s.heap.get? a = some (numO d1 k t)) (hb : s.heap.get? b = some (numO d2 j u)) :
    wpAny (model PG w) A9 (call (.builtin "int.__eq__") [.ref a, .ref b] []) (BoolPost s (decide (k = j))) E s := by (try unfold numO at ha); (try unfold numO at hb); x_run
theorem run_le_ni (X : (hd.heap_39 w.params).In s.heap) (ha : s.heap.get? a = some (numO d1 k t)) :
    wpAny (model PG w) A9 (call (.builtin "int.__le__") [.ref a, .int j u] []) (BoolPost s (decide (k ≤ j))) E s := by (try unfold numO at ha); (try unfold numO at hb); x_run
theorem run_ne_ni (X : (hd.heap_39 w.params).In s.heap) (ha : s.heap.get? a = some (numO d1 k t)) :
    wpAny (model PG w) A9 (call (.builtin "int.__ne__") [.ref a, .int j u] []) (BoolPost s (decide (k ≠ j))) E s := by (try unfold numO at ha); (try unfold numO at hb); x_run
theorem run_gt_ni (X : (hd.heap_39 w.params).In s.heap) (ha : s.heap.get? a = some (numO d1 k t)) :
    wpAny (model PG w) A9 (call (.builtin "int.__gt__") [.ref a, .int j u] []) (BoolPost s (decide (j < k))) E s := by (try unfold numO at ha); (try unfold numO at hb); x_run
theorem run_eq_nd {es : Array DictEntry} {n : Nat} (X : (hd.heap_39 w.params).In s.heap) (ha : s.heap.get? a = some (numO d1 k t)) (hb : s.heap.get? b = some ⟨.ref 324, some d2, .dict es n, #[]⟩) :
    wpAny (model PG w) A9 (call (.builtin "int.__eq__") [.ref a, .ref b] []) (NotImpl s) E s := by (try unfold numO at ha); (try unfold numO at hb); x_run
theorem run_eq_dn {es : Array DictEntry} {n : Nat} (X : (hd.heap_39 w.params).In s.heap) (ha : s.heap.get? a = some (numO d1 k t)) (hb : s.heap.get? b = some ⟨.ref 324, some d2, .dict es n, #[]⟩) :
    wpAny (model PG w) A9 (call (.builtin "dict.__eq__") [.ref b, .ref a] []) (NotImpl s) E s := by (try unfold numO at ha); (try unfold numO at hb); x_run
end
end Mine
end
section
open PySem PySem.W PySem.W.X PyProof.Rows
set_option maxRecDepth 100000
set_option maxHeartbeats 80000000
namespace Mine
section
variable {A : Around} {E : Value → Shared → Prop} {s : Shared} {x C : Addr} {ox : Obj} {w : World}
theorem ifBound_own {name : Str} {i : String} {args : List Value} {Q : Option Value → Shared → Prop} (X : (hd.heap_39 w.params).In s.heap) (ho : s.heap.get? x = some ox) (hc : ox.cls = .ref C)
    (hl : findIn (hd.heap_39 w.params) (.ref C) name = some (some (.builtin i))) (hb : bindSpecial (.builtin i) (.ref x) = pure (.builtin i, [.ref x]))
    (h : wpAny (model PG w) A (call (.builtin i) (.ref x :: args)) (fun v => Q (some v)) E s) : wpAny (model PG w) A (callSpecialIfBound? (.ref x) name args) Q E s := by
  simp only [callSpecialIfBound?, bindSpecialIfBound?]
  refine wpAny_holding (wpAny_bind (wpAny_bind ((own_special X ho hc hl).here ?_)))
  refine wpAny_bind (wpAny_askSetting (wpAny_ite ?_))
  have fin : wpAny (model PG w) A (call (.builtin i) ([.ref x] ++ args) >>= fun v => pure (some v)) Q E s := wpAny_bind (wpAny_mono h (fun v s' h' => wpAny_pure h') fun _ _ h' => h')
  split
  · refine wpAny_bind ?_
    rw [hb]
    exact wpAny_pure (wpAny_pure (by exact fin))
  · refine wpAny_tryCatch (wpAny_bind ?_)
    rw [hb]
    exact wpAny_pure (wpAny_pure (by exact fin))

theorem try_some {name : Str} {i : String} {b v : Value} {P : Value → Shared → Prop} {Q : Option Value → Shared → Prop} (X : (hd.heap_39 w.params).In s.heap) (ho : s.heap.get? x = some ox) (hc : ox.cls = .ref C)
    (hl : findIn (hd.heap_39 w.params) (.ref C) name = some (some (.builtin i))) (hb : bindSpecial (.builtin i) (.ref x) = pure (.builtin i, [.ref x]))
    (h : wpAny (model PG w) A (call (.builtin i) [.ref x, b]) P E s) (hP : ∀ v' s', P v' s' → v' = v ∧ Q (some v) s') (hv : v ≠ .notImplemented) : wpAny (model PG w) A (tryCompare (.ref x) name b) Q E s := by
  unfold tryCompare
  refine wpAny_bind (ifBound_own X ho hc hl hb (wpAny_mono h (fun v' s' hv' => ?_) fun _ _ e => e))
  obtain ⟨rfl, hq⟩ := hP v' s' hv'
  cases v' <;> first | exact absurd rfl hv | exact wpAny_pure hq
theorem try_none {name : Str} {i : String} {b : Value} {P : Value → Shared → Prop} {Q : Option Value → Shared → Prop} (X : (hd.heap_39 w.params).In s.heap) (ho : s.heap.get? x = some ox) (hc : ox.cls = .ref C)
    (hl : findIn (hd.heap_39 w.params) (.ref C) name = some (some (.builtin i))) (hb : bindSpecial (.builtin i) (.ref x) = pure (.builtin i, [.ref x]))
    (h : wpAny (model PG w) A (call (.builtin i) [.ref x, b]) P E s) (hP : ∀ v' s', P v' s' → v' = .notImplemented ∧ Q none s') : wpAny (model PG w) A (tryCompare (.ref x) name b) Q E s := by
  unfold tryCompare
  refine wpAny_bind (ifBound_own X ho hc hl hb (wpAny_mono h (fun v' s' hv' => ?_) fun _ _ e => e))
  obtain ⟨rfl, hq⟩ := hP v' s' hv'
  exact wpAny_pure hq

theorem one_none {op : CmpOp} {a : Addr} {b : Value} : oneThing? op (.ref a) b = none := by rfl

/-- the left side's own method answers -/
theorem cmp_left {op : CmpOp} {b tb v : Value} {i : String} {P : Value → Shared → Prop} {Q : Value → Shared → Prop} (hu : A.units < cLine) (X : (hd.heap_39 w.params).In s.heap) (ho : s.heap.get? x = some ox) (hc : ox.cls = .ref C)
    (htb : Looks (model PG w) s.heap (typeOf b) tb) (hr : tb = .ref C ∨ Looks (model PG w) s.heap (isSubtype tb (.ref C)) false)
    (hl : findIn (hd.heap_39 w.params) (.ref C) (cmpInfo op).2.1 = some (some (.builtin i))) (hb : bindSpecial (.builtin i) (.ref x) = pure (.builtin i, [.ref x]))
    (h : wpAny (model PG w) A (call (.builtin i) [.ref x, b]) P E s) (hP : ∀ v' s', P v' s' → v' = v ∧ Q v s') (hv : v ≠ .notImplemented) : wpAny (model PG w) A (richCompare op (.ref x) b) Q E s := by
  have one := try_some (Q := fun r s' => r = some v ∧ Q v s') X ho hc hl hb h (fun v' s' q => ⟨(hP v' s' q).1, rfl, (hP v' s' q).2⟩) hv
  unfold richCompare
  simp only [oneThing_ref]
  refine wpAny_holding (wpAny_bind (wpAny_cRoomFor hu ?_))
  refine wpAny_bind ((own_type ho hc).here (wpAny_bind (htb.here ?_)))
  have go : wpAny (model PG w) A (tryCompare (.ref x) (cmpInfo op).2.1 b) (fun r s' => r = some v ∧ Q v s') E s := one
  split
  · rename_i q
    rcases hr with hr | hr
    · rw [hr] at q; simp at q
    · refine wpAny_bind (hr.here ?_)
      simp only [Bool.false_eq_true, if_false]
      refine wpAny_bind (wpAny_mono go (fun r s' z => ?_) fun _ _ e => e)
      obtain ⟨rfl, hq⟩ := z
      exact wpAny_pure hq
  · refine wpAny_bind (wpAny_pure ?_)
    simp only [Bool.false_eq_true, if_false]
    refine wpAny_bind (wpAny_mono go (fun r s' z => ?_) fun _ _ e => e)
    obtain ⟨rfl, hq⟩ := z
    exact wpAny_pure hq
end
end Mine
end
section
open PySem PySem.W PySem.W.X PyProof.Rows
set_option maxRecDepth 100000
set_option maxHeartbeats 80000000
namespace Mine
structure AOk (A : Around) : Prop where
  hd : A.handled = none
  dp : A.depth ≤ 600
  un : A.units ≤ 3000
theorem AOk.room {A : Around} (h : AOk A) : A.units < cLine := by have := h.un; unfold cLine; omega
theorem AOk.run {α : Type} {M : Model} {A : Around} {t : Sem α} {Q : α → Shared → Prop} {E : Value → Shared → Prop} {s : Shared} (h : AOk A) (q : wpAny M A9 t Q E s) : wpAny M A t Q E s := weaken h.hd h.dp h.un q
section
variable {A : Around} {E : Value → Shared → Prop} {s : Shared} {w : World} {a b d1 d2 : Addr} {k j : Int} {t u : Tok} {Q : Value → Shared → Prop}
theorem cmp_le_nn (hA : AOk A) (X : (hd.heap_39 w.params).In s.heap) (ha : s.heap.get? a = some (numO d1 k t)) (hb : s.heap.get? b = some (numO d2 j u)) (h : ∀ tk, Q (.bool (decide (k ≤ j))) { s with toks := tk }) :
    wpAny (model PG w) A (compareOp .LtE (.ref a) (.ref b)) Q E s :=
  cmp_left (op := .LtE) (v := .bool (decide (k ≤ j))) hA.room X ha rfl (own_type hb rfl) (.inl rfl) (by kernel_rfl) (PySem.F.slot_int_le.bind _) (hA.run (run_le_nn X ha hb)) (fun v' s' ⟨h1, tk, h2⟩ => ⟨h1, h2 ▸ h tk⟩) (by simp)
theorem rc_eq_nn (hA : AOk A) (X : (hd.heap_39 w.params).In s.heap) (ha : s.heap.get? a = some (numO d1 k t)) (hb : s.heap.get? b = some (numO d2 j u)) (h : ∀ tk, Q (.bool (decide (k = j))) { s with toks := tk }) :
    wpAny (model PG w) A (richCompare .Eq (.ref a) (.ref b)) Q E s :=
  cmp_left (op := .Eq) (v := .bool (decide (k = j))) hA.room X ha rfl (own_type hb rfl) (.inl rfl) (by kernel_rfl) (PySem.F.slot_int_eq.bind _) (hA.run (run_eq_nn X ha hb)) (fun v' s' ⟨h1, tk, h2⟩ => ⟨h1, h2 ▸ h tk⟩) (by simp)
theorem cmp_le_ni (hA : AOk A) (X : (hd.heap_39 w.params).In s.heap) (ha : s.heap.get? a = some (numO d1 k t)) (h : ∀ tk, Q (.bool (decide (k ≤ j))) { s with toks := tk }) :
    wpAny (model PG w) A (compareOp .LtE (.ref a) (.int j u)) Q E s :=
  cmp_left (op := .LtE) (v := .bool (decide (k ≤ j))) (tb := .type "int") hA.room X ha rfl (Looks.of_pure rfl) (.inr (Looks.of_pure (by rw [isSubtype_type]; kernel_rfl))) (by kernel_rfl) (PySem.F.slot_int_le.bind _) (hA.run (run_le_ni X ha)) (fun v' s' ⟨h1, tk, h2⟩ => ⟨h1, h2 ▸ h tk⟩) (by simp)
theorem cmp_ne_ni (hA : AOk A) (X : (hd.heap_39 w.params).In s.heap) (ha : s.heap.get? a = some (numO d1 k t)) (h : ∀ tk, Q (.bool (decide (k ≠ j))) { s with toks := tk }) :
    wpAny (model PG w) A (compareOp .NotEq (.ref a) (.int j u)) Q E s :=
  cmp_left (op := .NotEq) (v := .bool (decide (k ≠ j))) (tb := .type "int") hA.room X ha rfl (Looks.of_pure rfl) (.inr (Looks.of_pure (by rw [isSubtype_type]; kernel_rfl))) (by kernel_rfl) (PySem.F.slot_int_ne.bind _) (hA.run (run_ne_ni X ha)) (fun v' s' ⟨h1, tk, h2⟩ => ⟨h1, h2 ▸ h tk⟩) (by simp)
end
local macro_rules | `(tactic| x_close) => `(tactic| exact ⟨_, _, _, rfl, (by assumption), rfl⟩)
theorem run_name_eq {w : World} {s : Shared} {E : Value → Shared → Prop} {a b d1 d2 : Addr} {t u : Tok} (X : (hd.heap_39 w.params).In s.heap) (ha : s.heap.get? a = some (nameO d1 t)) (hb : s.heap.get? b = some (nameO d2 u)) :
    wpAny (model PG w) A9 (call (.ref 166) [.ref a, .ref b] []) (MadePost s fun v _ => v = .bool true) E s := by
  unfold nameO at ha hb
  x_run
end Mine
end
section
open PySem PySem.W PySem.W.X PyProof.Rows
set_option maxRecDepth 100000
set_option maxHeartbeats 80000000
namespace Mine
section
variable {A : Around} {E : Value → Shared → Prop} {s : Shared} {x C f : Addr} {ox : Obj} {w : World}
theorem ifBound_fn {name : Str} {args : List Value} {Q : Option Value → Shared → Prop} (X : (hd.heap_39 w.params).In s.heap) (ho : s.heap.get? x = some ox) (hc : ox.cls = .ref C)
    (hl : findIn (hd.heap_39 w.params) (.ref C) name = some (some (.ref f))) (hf : typeIn (hd.heap_39 w.params) (.ref f) = some (.type "function"))
    (h : wpAny (model PG w) A (call (.ref f) (.ref x :: args)) (fun v => Q (some v)) E s) : wpAny (model PG w) A (callSpecialIfBound? (.ref x) name args) Q E s := by
  simp only [callSpecialIfBound?, bindSpecialIfBound?]
  refine wpAny_holding (wpAny_bind (wpAny_bind ((own_special X ho hc hl).here ?_)))
  refine wpAny_bind (wpAny_askSetting (wpAny_ite ?_))
  have fin : wpAny (model PG w) A (call (.ref f) ([.ref x] ++ args) >>= fun v => pure (some v)) Q E s := wpAny_bind (wpAny_mono h (fun v s' h' => wpAny_pure h') fun _ _ h' => h')
  split
  · exact wpAny_bind ((bind_fn X _ hf).here (wpAny_pure (by exact fin)))
  · exact wpAny_tryCatch (wpAny_bind ((bind_fn X _ hf).here (wpAny_pure (by exact fin))))

/-- the left side's own method is a def of the text -/
theorem cmp_fn {op : CmpOp} {b tb v : Value} {P : Value → Shared → Prop} {Q : Value → Shared → Prop} (hu : A.units < cLine) (X : (hd.heap_39 w.params).In s.heap) (ho : s.heap.get? x = some ox) (hc : ox.cls = .ref C)
    (htb : Looks (model PG w) s.heap (typeOf b) tb) (hr : tb = .ref C ∨ Looks (model PG w) s.heap (isSubtype tb (.ref C)) false)
    (hl : findIn (hd.heap_39 w.params) (.ref C) (cmpInfo op).2.1 = some (some (.ref f))) (hf : typeIn (hd.heap_39 w.params) (.ref f) = some (.type "function"))
    (h : wpAny (model PG w) A (call (.ref f) [.ref x, b]) P E s) (hP : ∀ v' s', P v' s' → v' = v ∧ Q v s') (hv : v ≠ .notImplemented) : wpAny (model PG w) A (richCompare op (.ref x) b) Q E s := by
  have go : wpAny (model PG w) A (tryCompare (.ref x) (cmpInfo op).2.1 b) (fun r s' => r = some v ∧ Q v s') E s := by
    unfold tryCompare
    refine wpAny_bind (ifBound_fn X ho hc hl hf (wpAny_mono h (fun v' s' hv' => ?_) fun _ _ e => e))
    obtain ⟨rfl, hq⟩ := hP v' s' hv'
    cases v' <;> first | exact absurd rfl hv | exact wpAny_pure ⟨rfl, hq⟩
  unfold richCompare
  simp only [oneThing_ref]
  refine wpAny_holding (wpAny_bind (wpAny_cRoomFor hu ?_))
  refine wpAny_bind ((own_type ho hc).here (wpAny_bind (htb.here ?_)))
  split
  · rename_i q
    rcases hr with hr | hr
    · rw [hr] at q; simp at q
    · refine wpAny_bind (hr.here ?_)
      simp only [Bool.false_eq_true, if_false]
      refine wpAny_bind (wpAny_mono go (fun r s' z => ?_) fun _ _ e => e)
      obtain ⟨rfl, hq⟩ := z
      exact wpAny_pure hq
  · refine wpAny_bind (wpAny_pure ?_)
    simp only [Bool.false_eq_true, if_false]
    refine wpAny_bind (wpAny_mono go (fun r s' z => ?_) fun _ _ e => e)
    obtain ⟨rfl, hq⟩ := z
    exact wpAny_pure hq
theorem eqBool_of {a b : Value} {r : Bool} {Q : Bool → Shared → Prop} (hne : (a == b) = false) (hfl : ∀ x y z u, ¬ (a = .float x y ∧ b = .float z u)) (h : wpAny (model PG w) A (richCompare .Eq a b) (fun v s' => v = .bool r ∧ Q r s') E s) :
    wpAny (model PG w) A (eqBool a b) Q E s := by
  have tail : wpAny (model PG w) A (do truthOfDropped (← richCompare .Eq a b)) Q E s := by
    refine wpAny_bind (wpAny_mono h (fun v s' q => ?_) fun _ _ e => e)
    obtain ⟨rfl, hq⟩ := q
    exact wpAny_pure hq
  unfold eqBool
  refine wpAny_holding ?_
  rw [if_neg (by rw [hne]; decide)]
  split
  · rename_i x y z u e
    injection e with e1 e2
    exact absurd ⟨e1, e2⟩ (hfl _ _ _ _)
  · exact tail
end
section
variable {A : Around} {E : Value → Shared → Prop} {s : Shared} {w : World} {a b d1 d2 : Addr} {k j : Int} {t u : Tok} {Q : Value → Shared → Prop}
theorem ref_ne {a b : Addr} (h : a ≠ b) : (Value.ref a == Value.ref b) = false := by
  apply beq_false_of_ne
  intro e
  exact h (Value.ref.inj e)
theorem eqB_nn {Q : Bool → Shared → Prop} (hA : AOk A) (X : (hd.heap_39 w.params).In s.heap) (ha : s.heap.get? a = some (numO d1 k t)) (hb : s.heap.get? b = some (numO d2 j u)) (hne : a ≠ b) (h : ∀ tk, Q (decide (k = j)) { s with toks := tk }) :
    wpAny (model PG w) A (eqBool (.ref a) (.ref b)) Q E s :=
  eqBool_of (r := decide (k = j)) (ref_ne hne) (fun _ _ _ _ q => nomatch q.1) (rc_eq_nn hA X ha hb fun tk => ⟨rfl, h tk⟩)
/-- a dictionary object is no number -/
theorem eqB_dn {es : Array DictEntry} {n : Nat} {Q : Bool → Shared → Prop} (hA : AOk A) (X : (hd.heap_39 w.params).In s.heap) (ha : s.heap.get? a = some ⟨.ref 324, some d1, .dict es n, #[]⟩) (hb : s.heap.get? b = some (numO d2 j u)) (hne : a ≠ b) (h : ∀ tk, Q false { s with toks := tk }) :
    wpAny (model PG w) A (eqBool (.ref a) (.ref b)) Q E s := by
  refine eqBool_of (r := false) (ref_ne hne) (fun _ _ _ _ q => nomatch q.1) ?_
  unfold richCompare
  simp only [oneThing_ref]
  refine wpAny_holding (wpAny_bind (wpAny_cRoomFor hA.room ?_))
  refine wpAny_bind ((own_type ha rfl).here (wpAny_bind ((own_type hb rfl).here ?_)))
  have hs : Looks (model PG w) s.heap (isSubtype (.ref 145) (.ref 324)) false := looks_mroIn X (by kernel_rfl)
  rw [if_pos (by decide)]
  refine wpAny_bind (hs.here ?_)
  simp only [Bool.false_eq_true, if_false]
  refine wpAny_bind (try_none X ha rfl (i := "dict.__eq__") (by kernel_rfl) (PySem.F.slot_dict_eq.bind _) (hA.run (run_eq_dn X hb ha)) (fun v' s' q => ⟨q.1, ?_⟩))
  obtain ⟨_, tk, rfl⟩ := q
  simp only [Bool.not_false, if_true]
  refine wpAny_bind (try_none (s := { s with toks := tk }) X hb rfl (i := "int.__eq__") (by kernel_rfl) (PySem.F.slot_int_eq.bind _) (hA.run (run_eq_nd (s := { s with toks := tk }) X hb ha)) (fun v' s' q => ⟨q.1, ?_⟩))
  obtain ⟨_, tk', rfl⟩ := q
  refine wpAny_bind (wpAny_rule ?_)
  have hi : Looks (model PG w) s.heap (isSame (.ref a) (.ref b)) false := by
    unfold isSame
    dsimp only
    rw [if_neg (by simpa using hne)]
    exact (Looks.ld (part := none) ha).andThen ((Looks.ld (part := none) hb).andThen .now)
  exact wpAny_bind (hi.here (s := { s with toks := tk' }) (wpAny_pure ⟨rfl, h tk'⟩))
end
end Mine
end
section
open PySem PySem.W PySem.W.X PyProof.Rows
set_option maxRecDepth 100000
set_option maxHeartbeats 80000000
namespace Mine
theorem AOk.in1 {A : Around} (h : AOk A) (hu : A.units < 3000) : AOk A.in1 := ⟨h.hd, h.dp, hu⟩
section
variable {A : Around} {E : Value → Shared → Prop} {s : Shared} {w : World} {a b d1 d2 : Addr} {k j : Int} {t u : Tok}
theorem eqB_names {Q : Bool → Shared → Prop} (hA : AOk A) (X : (hd.heap_39 w.params).In s.heap) (ha : s.heap.get? a = some (nameO d1 t)) (hb : s.heap.get? b = some (nameO d2 u)) (hne : a ≠ b)
    (h : ∀ h' tk, (∀ c o, s.heap.get? c = some o → h'.get? c = some o) → Q true { s with heap := h', toks := tk }) : wpAny (model PG w) A (eqBool (.ref a) (.ref b)) Q E s :=
  eqBool_of (r := true) (ref_ne hne) (fun _ _ _ _ q => nomatch q.1) (cmp_fn (op := .Eq) (v := .bool true) hA.room X ha rfl (own_type hb rfl) (.inl rfl) (by kernel_rfl) (by kernel_rfl) (hA.run (run_name_eq X ha hb))
    (fun v' s' ⟨tk, h', nw, e, D, hv⟩ => ⟨hv, rfl, e ▸ h h' tk (mem_keep D)⟩) (by simp))
theorem quiet_name {h : Heap} (X : (hd.heap_39 w.params).In h) (ha : h.get? a = some (nameO d1 t)) : Looks (model PG w) h (eqIsQuiet 8 (.ref a)) false := by
  have h1 := own_special (M := model PG w) (w := w) X ha rfl (name := "__eq__") (r := some (.ref 166)) (by kernel_rfl)
  have h2 : Looks (model PG w) h (answersAConstant 166) false := Looks.of_peek X (by kernel_rfl)
  unfold eqIsQuiet
  exact h1.andThen h2
theorem places_one {e : DictEntry} {H : Int} (he : e.hash = H) : placesWithHash (#[e] : Array DictEntry).size (fun i => (#[e] : Array DictEntry)[i]?.map (·.hash)) H = [0] := by
  subst he
  simp [placesWithHash]
theorem range_one (es : Array DictEntry) (h : es.size = 1) : List.range' ([:es.size] : Std.Legacy.Range).start ([:es.size] : Std.Legacy.Range).size ([:es.size] : Std.Legacy.Range).step = [0] := by
  simp [Std.Legacy.Range.size, h]
theorem find_name {e d3 : Addr} {H : Int} {v : Addr} {Q : Option Nat → Shared → Prop} (hA : AOk A) (X : (hd.heap_39 w.params).In s.heap) (he : s.heap.get? e = some (entO d3 H b v)) (ha : s.heap.get? a = some (nameO d1 t)) (hb : s.heap.get? b = some (nameO d2 u)) (hne : b ≠ a)
    (h : ∀ h' tk, (∀ c o, s.heap.get? c = some o → h'.get? c = some o) → Q (some 0) { s with heap := h', toks := tk }) : wpAny (model PG w) A (dictFind e (.ref a) H) Q E s := by
  have hq := quiet_name (w := w) X ha
  unfold dictFind dictEntries
  refine wpAny_holding (wpAny_bind (wpAny_bind (wpAny_loadPart he (wpAny_pure ?_))))
  dsimp only
  rw [places_one rfl]
  have hst : List.filterMap (fun i => Option.map (fun x => x.key) (#[(⟨H, .ref b, .ref v⟩ : DictEntry)] : Array DictEntry)[i]?) [0] = [Value.ref b] := by simp
  rw [hst]
  rw [if_neg (by simp [carriedByValue])]
  rw [if_neg (by simp [hne])]
  rw [if_neg (by simp [hne])]
  have htl : Looks (model PG w) s.heap (tableMayTell (.ref a) [.ref b]) true := by
    unfold tableMayTell
    rw [if_neg (by simp)]
    exact hq.andThen .now
  refine wpAny_bind (htl.here ?_)
  rw [if_neg (by simp)]
  refine wpAny_bind ?_
  rw [List.forIn_cons]
  have h0 : (#[(⟨H, .ref b, .ref v⟩ : DictEntry)] : Array DictEntry)[0]? = some ⟨H, .ref b, .ref v⟩ := rfl
  rw [h0]
  refine wpAny_bind ?_
  dsimp only
  rw [if_pos (by simp)]
  unfold dictEpoch
  refine wpAny_bind (wpAny_bind (wpAny_loadPart he (wpAny_pure ?_)))
  refine wpAny_bind (eqB_names hA X hb ha hne fun h' tk kp => ?_)
  refine wpAny_bind (wpAny_bind (wpAny_loadPart (s := { s with heap := h', toks := tk }) (kp _ _ he) (wpAny_pure ?_)))
  rw [if_neg (by simp), if_pos rfl, if_neg (by simp)]
  refine wpAny_bind (wpAny_rule ?_)
  rw [if_pos (by simp)]
  exact wpAny_pure (wpAny_pure (wpAny_pure (h h' tk kp)))

theorem ent_body {e1 e2 k1 k2 v1 v2 c1 c2 c3 c4 d3 d4 : Addr} {H : Int} {t1 t2 t3 t4 : Tok} {n1 n2 : Int} {Q : Bool → Shared → Prop} (hA : AOk A) (X : (hd.heap_39 w.params).In s.heap)
    (he1 : s.heap.get? e1 = some (entO c1 H k1 v1)) (he2 : s.heap.get? e2 = some (entO c2 H k2 v2)) (hk1 : s.heap.get? k1 = some (nameO c3 t1)) (hk2 : s.heap.get? k2 = some (nameO c4 t2))
    (hv1 : s.heap.get? v1 = some (numO d3 n1 t3)) (hv2 : s.heap.get? v2 = some (numO d4 n2 t4)) (hk : k2 ≠ k1) (hv : v1 ≠ v2) (lo1 : (e1 == sysModules) = false) (lo2 : (e2 == sysModules) = false)
    (h : ∀ h' tk, (∀ c o, s.heap.get? c = some o → h'.get? c = some o) → Q (decide (n1 = n2)) { s with heap := h', toks := tk }) :
    wpAny (model PG w) A (Builtin.Dict.samePairs "dict.__ne__" e1 e2) Q E s := by
  unfold Builtin.Dict.samePairs Builtin.Dict.showsAll
  rw [if_neg (by rw [lo1]; decide), if_neg (by rw [lo2]; decide)]
  have f0 : (#[(⟨H, .ref k1, .ref v1⟩ : DictEntry)] : Array DictEntry)[0]? = some ⟨H, .ref k1, .ref v1⟩ := rfl
  have g0 : (#[(⟨H, .ref k2, .ref v2⟩ : DictEntry)] : Array DictEntry)[0]? = some ⟨H, .ref k2, .ref v2⟩ := rfl
  refine wpAny_bind (wpAny_pure (wpAny_bind (wpAny_pure ?_)))
  unfold dictEntries dictEpoch
  refine wpAny_bind (wpAny_bind (wpAny_loadPart he1 (wpAny_pure ?_)))
  refine wpAny_bind (wpAny_bind (wpAny_loadPart he2 (wpAny_pure ?_)))
  rw [if_neg (by simp)]
  refine wpAny_bind (wpAny_bind (wpAny_loadPart he1 (wpAny_pure ?_)))
  rw [Std.Legacy.Range.forIn_eq_forIn_range']
  refine wpAny_bind ?_
  rw [range_one _ rfl, List.forIn_cons]
  refine wpAny_bind (wpAny_bind (wpAny_bind (wpAny_loadPart he1 (wpAny_pure ?_))))
  rw [f0]
  refine wpAny_bind (wpAny_holding (wpAny_bind (find_name hA X he2 hk1 hk2 hk fun h' tk kp => ?_)))
  refine wpAny_bind (wpAny_bind (wpAny_loadPart (s := { s with heap := h', toks := tk }) (kp _ _ he2) (wpAny_pure ?_)))
  rw [g0]
  refine wpAny_holding (eqB_nn (s := { s with heap := h', toks := tk }) hA (fun c o e => kp _ _ (X c o e)) (kp _ _ hv1) (kp _ _ hv2) hv fun tk' => ?_)
  have fin := h h' tk' kp
  by_cases q : n1 = n2
  · rw [decide_eq_true q] at fin ⊢
    rw [if_neg (by decide)]
    refine wpAny_bind (wpAny_bind (wpAny_loadPart (s := { s with heap := h', toks := tk' }) (kp _ _ he1) (wpAny_pure ?_)))
    rw [if_neg (by simp)]
    exact wpAny_pure (wpAny_pure (wpAny_pure fin))
  · rw [decide_eq_false q] at fin ⊢
    rw [if_pos (by decide)]
    exact wpAny_pure (wpAny_pure (wpAny_pure fin))

theorem ent_ne {e1 e2 k1 k2 v1 v2 c1 c2 c3 c4 d3 d4 : Addr} {H : Int} {t1 t2 t3 t4 : Tok} {n1 n2 : Int} {Q : Value → Shared → Prop} (hA : AOk A) (hu : A.units < 3000) (X : (hd.heap_39 w.params).In s.heap)
    (he1 : s.heap.get? e1 = some (entO c1 H k1 v1)) (he2 : s.heap.get? e2 = some (entO c2 H k2 v2)) (hk1 : s.heap.get? k1 = some (nameO c3 t1)) (hk2 : s.heap.get? k2 = some (nameO c4 t2))
    (hv1 : s.heap.get? v1 = some (numO d3 n1 t3)) (hv2 : s.heap.get? v2 = some (numO d4 n2 t4)) (hk : k2 ≠ k1) (hv : v1 ≠ v2)
    (h : ∀ h' tk, (∀ c o, s.heap.get? c = some o → h'.get? c = some o) → Q (.bool (decide (n1 ≠ n2))) { s with heap := h', toks := tk }) :
    wpAny (model PG w) A (compareOp .NotEq (.ref e1) (.ref e2)) Q E s := by
  have lo : ∀ e c k v, s.heap.get? e = some (entO c H k v) → (e == sysModules) = false := by
    intro e c k v he
    apply beq_false_of_ne
    rintro rfl
    have z : ∃ o, (hd.heap_39 w.params).lookup sysModules = some o ∧ (o.cls == .type "dict") = true := by
      refine ⟨_, rfl, rfl⟩
    obtain ⟨o, z1, z2⟩ := z
    have y := X _ _ z1
    rw [he] at y
    have := Option.some.inj y
    subst this
    exact absurd (beq_iff_eq.mp z2) (fun q => nomatch q)
  refine cmp_left (op := .NotEq) (i := "dict.__ne__") (v := .bool (decide (n1 ≠ n2))) (P := fun v s' => v = .bool (decide (n1 ≠ n2)) ∧ ∃ h' tk, (∀ c o, s.heap.get? c = some o → h'.get? c = some o) ∧ s' = { s with heap := h', toks := tk }) hA.room X he1 rfl (own_type he2 rfl) (.inl rfl) (by kernel_rfl) (PySem.F.slot_dict_ne.bind _) ?_
    (fun v' s' ⟨h1, h', tk, kp, e⟩ => ⟨h1, e ▸ h h' tk kp⟩) (by simp)
  refine call_own (by decide +kernel) PySem.F.entry_dict_ne (owner := "dict") (n := "__ne__") (.inl (by decide +kernel)) (by decide +kernel) (own_inst X he1 rfl (by kernel_rfl)) (PySem.F.args_dict_ne_2 _ _) ?_
  have hi : Looks (model PG w) s.heap (isInstance (.ref e2) (.type "dict")) true := own_inst X he2 rfl (by kernel_rfl)
  show wpAny _ _ (isInstance (.ref e2) (.type "dict") >>= _) _ _ _
  refine wpAny_bind (hi.here ?_)
  rw [if_neg (by decide)]
  show wpAny _ _ (Builtin.Dict.samePairs "dict.__ne__" e1 e2 >>= _) _ _ _
  refine wpAny_bind (ent_body (hA.in1 hu) X he1 he2 hk1 hk2 hv1 hv2 hk hv (lo _ _ _ _ he1) (lo _ _ _ _ he2) fun h' tk kp => ?_)
  refine wpAny_pure ⟨?_, h', tk, kp, rfl⟩
  by_cases q : n1 = n2 <;> simp [q]
end
end Mine
end
section
open PySem PySem.W PySem.W.X PyProof.Rows
set_option maxRecDepth 100000
set_option maxHeartbeats 80000000
namespace Mine
noncomputable def hashRaw (P : Params) : Int := XFast.xw12210062019545310541 (P.strHash #[47, 83, 116])
def redI (i : Int) : Int := if (-(2 ^ 63 : Int) ≤ i && i < 2 ^ 63) = true then (if (i == -1) = true then -2 else i) else
  (let m : Int := 2 ^ 61 - 1
   let h := (i.natAbs : Int) % m
   let h := if i < 0 then -h else h
   if (h == -1) = true then -2 else h)
noncomputable def entHash (P : Params) : Int := redI (hashRaw P)
section
variable {A : Around} {E : Value → Shared → Prop} {s : Shared} {w : World} {a b d1 d2 : Addr} {k j : Int} {t u : Tok}
theorem reduced_is {i : Int} {Q : Int → Shared → Prop} (h : Q (redI i) s) : wpAny (model PG w) A (pyHashByItsType.reduced i) Q E s := by
  unfold pyHashByItsType.reduced
  unfold redI at h
  by_cases q : (decide (-(2 ^ 63 : Int) ≤ i) && decide (i < 2 ^ 63)) = true
  · rw [if_pos q] at h ⊢
    exact wpAny_pure h
  · rw [if_neg q] at h ⊢
    exact wpAny_bind (wpAny_rule (wpAny_pure h))
local macro_rules | `(tactic| x_close) => `(tactic| exact ⟨_, _, _, rfl, (by assumption), ⟨_, rfl⟩⟩)
theorem run_hash (X : (hd.heap_39 w.params).In s.heap) (ha : s.heap.get? a = some (nameO d1 t)) :
    wpAny (model PG w) A9 (call (.ref 173) [.ref a] []) (MadePost s fun v _ => ∃ tk, v = .int (hashRaw w.params) tk) E s := by
  unfold nameO at ha
  x_run
theorem hash_name {Q : Int → Shared → Prop} (hA : AOk A) (X : (hd.heap_39 w.params).In s.heap) (ha : s.heap.get? a = some (nameO d1 t))
    (h : ∀ h' tk, (∀ c o, s.heap.get? c = some o → h'.get? c = some o) → Q (entHash w.params) { s with heap := h', toks := tk }) : wpAny (model PG w) A (pyHash (.ref a)) Q E s := by
  have hs : Looks (model PG w) s.heap (specialOf (.ref a) "__hash__") (some (.ref 173)) := own_special X ha rfl (by kernel_rfl)
  show wpAny _ _ (pyHashByItsType (.ref a)) _ _ _
  unfold pyHashByItsType
  refine wpAny_bind (wpAny_cRoomFor hA.room ?_)
  refine wpAny_bind (hs.here ?_)
  rw [if_neg (by decide)]
  refine wpAny_bind (hs.here ?_)
  rw [if_neg (by decide)]
  have rest : wpAny (model PG w) A (call (.ref 173) [.ref a]) (fun v s' => wpAny (model PG w) A (match some v with
      | some (.int i _) => pyHashByItsType.reduced i
      | some (.bool b) => pure (if b then 1 else 0)
      | some (.ref a) => do
        match (← load a).data with
        | .prim (.int i _) =>
          rule "hash.int-subclass"
          let h ← pyHashByItsType.reduced i
          point
          pure h
        | _ => raiseError "TypeError" "__hash__ method should return an integer"
      | some r => do notAStandIn r; raiseError "TypeError" "__hash__ method should return an integer"
      | none => do raiseError "TypeError" s!"unhashable type: '{← PySem.typeNameOf (.ref a)}'") Q E s') E s := by
    refine hA.run (wpAny_mono (run_hash X ha) (fun v s' q => ?_) fun _ _ e => e)
    obtain ⟨tk, h', nw, rfl, D, t', rfl⟩ := q
    exact reduced_is (h h' tk (mem_keep D))
  refine wpAny_bind ?_
  unfold callSpecialIfBoundUnlessNone?
  unfold bindSpecialIfBound?
  refine wpAny_holding (wpAny_bind (wpAny_bind (hs.here ?_)))
  have hb : Looks (model PG w) s.heap (bindSpecial (.ref 173) (.ref a)) (.ref 173, [.ref a]) := bind_fn X _ (by kernel_rfl)
  refine wpAny_bind (wpAny_askSetting (wpAny_ite ?_))
  split
  · refine wpAny_bind (hb.here (wpAny_pure ?_))
    dsimp only
    rw [if_neg (by decide)]
    exact wpAny_bind (wpAny_mono rest (fun v s' h' => wpAny_pure h') fun _ _ h' => h')
  · refine wpAny_tryCatch (wpAny_bind (hb.here (wpAny_pure ?_)))
    dsimp only
    rw [if_neg (by decide)]
    exact wpAny_bind (wpAny_mono rest (fun v s' h' => wpAny_pure h') fun _ _ h' => h')

/-- the first entry of a dictionary object -/
theorem dict_set0 {e ka va d : Addr} {Q : Value → Shared → Prop} (hA : AOk A) (hu : A.units < 3000) (X : (hd.heap_39 w.params).In s.heap) (he : s.heap.get? e = some ⟨.ref 324, some d, .dict #[] 0, #[]⟩) (ha : s.heap.get? ka = some (nameO d1 t))
    (h : ∀ h' tk, (∀ c o, c ≠ e → s.heap.get? c = some o → h'.get? c = some o) → h'.get? e = some (entO d (entHash w.params) ka va) → Q .none { s with heap := h', toks := tk }) :
    wpAny (model PG w) A (call (.builtin "dict.__setitem__") [.ref e, .ref ka, .ref va]) Q E s := by
  refine call_own (by decide +kernel) PySem.F.entry_dict_setitem (owner := "dict") (n := "__setitem__") (.inl (by decide +kernel)) (by decide +kernel) (own_inst X he rfl (by kernel_rfl)) (PySem.F.args_dict_setitem_3 _ _ _) ?_
  have t1 : Looks (model PG w) s.heap (typeOf (.ref e)) (.ref 324) := own_type he rfl
  have t2 : Looks (model PG w) s.heap (isInstance (.ref e) (.type "collections.OrderedDict")) false := own_inst X he rfl (by kernel_rfl)
  unfold Builtin.«dict.__setitem__» Builtin.Dict.notOrdered
  rw [if_pos (by decide +kernel)]
  refine wpAny_bind (wpAny_bind (t1.here ?_))
  rw [if_pos (by decide +kernel)]
  refine wpAny_bind (t2.here ?_)
  rw [if_neg (by decide)]
  refine wpAny_pure ?_
  rw [if_neg (by simp)]
  show wpAny _ _ (dictSet e (.ref ka) (.ref va) >>= _) _ _ _
  refine wpAny_bind ?_
  unfold dictSet
  refine wpAny_holding (wpAny_bind (hash_name (hA.in1 hu) X ha fun h' tk kp => ?_))
  have he' := kp _ _ he
  unfold dictSetHashed
  refine wpAny_holding (wpAny_bind ?_)
  unfold dictFind dictEntries
  refine wpAny_holding (wpAny_bind (wpAny_bind (wpAny_loadPart (s := { s with heap := h', toks := tk }) he' (wpAny_pure ?_))))
  have hp : placesWithHash (#[] : Array DictEntry).size (fun i => (#[] : Array DictEntry)[i]?.map (·.hash)) (entHash w.params) = [] := by simp [placesWithHash]
  dsimp only
  rw [hp]
  rw [if_neg (by simp [carriedByValue])]
  rw [if_neg (by simp)]
  rw [if_neg (by simp)]
  unfold tableMayTell
  refine wpAny_bind ?_
  simp only [List.filterMap_nil, List.isEmpty_nil, if_true]
  refine wpAny_pure ?_
  rw [if_neg (by simp)]
  refine wpAny_bind ?_
  rw [List.forIn_nil]
  refine wpAny_pure (wpAny_pure (wpAny_bind (wpAny_rule ?_)))
  unfold updateDictKeys
  refine wpAny_bind (wpAny_loadPart (s := { s with heap := h', toks := tk }) he' ?_)
  dsimp only
  refine wpAny_bind (wpAny_updatePart (s := { s with heap := h', toks := tk }) he' ?_)
  have hs : Heap.SameBut e h' (h'.update e (Obj.mapDictKeys fun es => es.push ⟨entHash w.params, .ref ka, .ref va⟩)) := Heap.SameBut.update ..
  have hg : (h'.update e (Obj.mapDictKeys fun es => es.push ⟨entHash w.params, .ref ka, .ref va⟩)).get? e = some (entO d (entHash w.params) ka va) := by
    rw [Heap.get?_update_self _ he' rfl]; rfl
  refine wpAny_lookBehind hg (pastItsLine_dict (by rw [sizeLine_eq]; simp)) (wpAny_pure ?_)
  exact h _ tk (fun c o hc q => (hs.2 c hc).trans (kp c o q)) hg
end
end Mine
end
section
open PySem PySem.W PySem.W.X PyProof.Rows
set_option maxRecDepth 100000
set_option maxHeartbeats 80000000
namespace Mine
/-- the engine's book of the written part is opened for this name of it -/
theorem fill : hd.heap_39 = hd.heap_39 ∧ PySem.Challenge.rw_ee5012_01 = PySem.Challenge.rw_ee5012_01 := by
  k_fill
  exact ⟨rfl, rfl⟩
structure Room (n : Nat) (A : Around) : Prop where
  hd : A.handled = none
  dp : A.depth + n ≤ 600
  un : A.units + 10 * n ≤ 3000
theorem Room.ok {n : Nat} {A : Around} (h : Room n A) : AOk A := ⟨h.hd, by have := h.dp; omega, by have := h.un; omega⟩
theorem Room.deeper {n : Nat} {A : Around} {e : Env} (h : Room (n + 1) A) : Room n (A.deeper e) := ⟨h.hd, by have := h.dp; show A.depth + 1 + n ≤ 600; omega, by have := h.un; show A.units + 3 + 10 * n ≤ 3000; omega⟩
theorem Room.in1 {n : Nat} {A : Around} (h : Room (n + 1) A) : Room n A.in1 := ⟨h.hd, by have := h.dp; show A.depth + n ≤ 600; omega, by have := h.un; show A.units + 1 + 10 * n ≤ 3000; omega⟩
theorem Room.less {n k : Nat} {A : Around} (h : Room n A) (hk : k ≤ n) : Room k A := ⟨h.hd, by have := h.dp; omega, by have := h.un; omega⟩

section
variable {A A₀ : Around} {E : Value → Shared → Prop} {s : Shared} {w : World} {base h₀ : Heap} {outer : List Env} {env : Env} {L : Addr} {m : Str → Option Value} {news : List (Addr × Obj)}
  {p : Program} {loose : List Str} {mean : ExcName → Option Value} {mg mb : Str → Option Value} {Q : Value → Shared → Prop}
local macro_rules | `(tactic| x_close) => `(tactic| exact ⟨rfl, _, rfl⟩)
theorem run_isi_num {w : World} {s : Shared} {E : Value → Shared → Prop} {a d1 : Addr} {k : Int} {t : Tok} (X : (hd.heap_39 w.params).In s.heap) (ha : s.heap.get? a = some (numO d1 k t)) :
    wpAny (model PG w) A9 (call (.builtin "isinstance") [.ref a, .ref 100] []) (BoolPost s true) E s := by unfold numO at ha; x_run
theorem run_isi_name {w : World} {s : Shared} {E : Value → Shared → Prop} {a d1 : Addr} {t : Tok} (X : (hd.heap_39 w.params).In s.heap) (ha : s.heap.get? a = some (nameO d1 t)) :
    wpAny (model PG w) A9 (call (.builtin "isinstance") [.ref a, .ref 100] []) (BoolPost s true) E s := by unfold nameO at ha; x_run

theorem isi_num_K {a d1 : Addr} {k : Int} {t : Tok} (R : AOk A) (F : Fr h₀ L s.heap m) (X₀ : (hd.heap_39 w.params).In h₀) (N : News h₀ L s.heap news) (hp : (a, numO d1 k t) ∈ news) (h : ∀ tk, Q (.bool true) { s with toks := tk }) :
    wpAny (model PG w) A (call (.builtin "isinstance") [.ref a, .ref 100]) Q E s :=
  R.run (wpAny_mono (run_isi_num (X₀.keeps F.keep) (N _ hp).1) (fun v s' ⟨h1, tk, h2⟩ => h1 ▸ h2 ▸ h tk) fun _ _ e => e)
theorem isi_name_K {a d1 : Addr} {t : Tok} (R : AOk A) (F : Fr h₀ L s.heap m) (X₀ : (hd.heap_39 w.params).In h₀) (N : News h₀ L s.heap news) (hp : (a, nameO d1 t) ∈ news) (h : ∀ tk, Q (.bool true) { s with toks := tk }) :
    wpAny (model PG w) A (call (.builtin "isinstance") [.ref a, .ref 100]) Q E s :=
  R.run (wpAny_mono (run_isi_name (X₀.keeps F.keep) (N _ hp).1) (fun v s' ⟨h1, tk, h2⟩ => h1 ▸ h2 ▸ h tk) fun _ _ e => e)
local macro_rules | `(tactic| walk_at "call builtin:isinstance") => `(tactic| (k_here; k_dflt (first
  | (refine' isi_name_K (Room.ok (n := 0) (Room.deeper (Room.less (by assumption) (by decide)))) (by assumption) (by assumption) (by assumption) (by assumption) ?_)
  | (refine' isi_num_K (Room.ok (n := 0) (Room.deeper (Room.less (by assumption) (by decide)))) (by assumption) (by assumption) (by assumption) (by assumption) ?_)); intro tk'))
theorem dict_type : typeOf (.type "dict") = pure (.type "type") := by kernel_rfl
theorem dict_stub : Manifest.isStub "dict" = false := by kernel_rfl
theorem dict_look (P : Params) : findCls (hd.heap_39 P) (.type "dict") (.type "type") (Str.ofString "__setitem__") = some (.val (.builtin "dict.__setitem__")) := by kernel_rfl
theorem dict_hand : handedIn (.builtin "dict.__setitem__") = true := by decide +kernel
theorem dict_meth {pl : Sem Bool} {Q : Value × List Value → Shared → Prop} (F : Fr h₀ L s.heap m) (X₀ : (hd.heap_39 w.params).In h₀) (h : Q (.builtin "dict.__setitem__", []) { s with toks := s.toks + 1 }) :
    wpAny (model PG w) A (getMethod (.type "dict") (Str.ofString "__setitem__") pl) Q E s := by
  have e := dict_look w.params
  exact method_type (K := hd.heap_39 w.params) (name := Str.ofString "__setitem__") (v := .builtin "dict.__setitem__") (T := "dict") F X₀ dict_type dict_stub e dict_hand h
local macro_rules | `(tactic| walk_at "getMethod") => `(tactic| (k_here; (with_reducible show wpAny _ _ (getMethod (Value.type "dict") _ _) _ _ _); (refine' dict_meth (by assumption) (by assumption) ?_)))
theorem fr_but {h h' : Heap} {e : Addr} {o : Obj} (F : Fr h₀ L h m) (N : News h₀ L h news) (he : (e, o) ∈ news) (kp : ∀ c o, c ≠ e → h.get? c = some o → h'.get? c = some o) : Fr h₀ L h' m := by
  obtain ⟨oL, es, ep, hL, r⟩ := F.ns
  have D := N _ he
  refine ⟨⟨oL, es, ep, kp _ _ (Ne.symm D.2.1) hL, r⟩, fun b o' q => kp _ _ (fun z => ?_) (F.keep _ _ q), F.above⟩
  have := D.2.2
  dsimp only at this
  rw [← z, q] at this
  cases this
theorem news_but {h h' : Heap} {e : Addr} {o o' : Obj} {news' : List (Addr × Obj)} (N : News h₀ L h news) (U : Upd e o o' news news') (kp : ∀ c o, c ≠ e → h.get? c = some o → h'.get? c = some o) (hg : h'.get? e = some o') : News h₀ L h' news' := by
  obtain ⟨pre, post, rfl, rfl, h1, h2⟩ := U.split
  have D := N (e, o) (by simp)
  intro q hq
  rcases List.mem_append.mp hq with hq | hq
  · have P := N q (List.mem_append_left _ hq); exact ⟨kp _ _ (h1 q hq) P.1, P.2⟩
  · rcases List.mem_cons.mp hq with rfl | hq
    · exact ⟨hg, D.2⟩
    · have P := N q (List.mem_append_right _ (.tail _ hq)); exact ⟨kp _ _ (h2 q hq) P.1, P.2⟩
theorem upd_mem {e : Addr} {o o' : Obj} {news' : List (Addr × Obj)} (U : Upd e o o' news news') : (e, o) ∈ news := by
  obtain ⟨pre, post, rfl, rfl, h1, h2⟩ := U.split
  simp
theorem upd_mem' {e : Addr} {o o' : Obj} {news' : List (Addr × Obj)} (U : Upd e o o' news news') : (e, o') ∈ news' := by
  obtain ⟨pre, post, rfl, rfl, h1, h2⟩ := U.split
  simp
theorem upd_stays {e : Addr} {o o' : Obj} {news' : List (Addr × Obj)} (U : Upd e o o' news news') {q : Addr × Obj} (hq : q ∈ news) (hne : q.1 ≠ e) : q ∈ news' := by
  obtain ⟨pre, post, rfl, rfl, h1, h2⟩ := U.split
  rcases List.mem_append.mp hq with hq | hq
  · exact List.mem_append_left _ hq
  · rcases List.mem_cons.mp hq with rfl | hq
    · exact absurd rfl hne
    · exact List.mem_append_right _ (.tail _ hq)
theorem dict_set0_K {e ka va d d1 : Addr} {t1 : Tok} {news' : List (Addr × Obj)} (R : Room 1 A) (F : Fr h₀ L s.heap m) (X₀ : (hd.heap_39 w.params).In h₀) (N : News h₀ L s.heap news)
    (U : Upd e (⟨.ref 324, some d, .dict #[] 0, #[]⟩ : Obj) (entO d (entHash w.params) ka va) news news') (hk : (ka, nameO d1 t1) ∈ news)
    (h : ∀ h' tk, Fr h₀ L h' m → News h₀ L h' news' → Q .none { s with heap := h', toks := tk }) :
    wpAny (model PG w) A (call (.builtin "dict.__setitem__") [.ref e, .ref ka, .ref va]) Q E s :=
  dict_set0 R.ok (by have := R.un; omega) (X₀.keeps F.keep) (N _ (upd_mem U)).1 (N _ hk).1 fun h' tk kp hg => h h' tk (fr_but F N (upd_mem U) kp) (news_but N U kp hg)
local macro_rules | `(tactic| walk_at "call builtin:dict.__setitem__") => `(tactic| (k_here; k_dflt (refine' dict_set0_K (Room.deeper (Room.less (by assumption) (by decide))) (by assumption) (by assumption) (by assumption) (by assumption) (by assumption) ?_); intro h' tk' F' N'))
local macro_rules | `(tactic| kc_close) => `(tactic| (apply_assumption <;> assumption))
theorem fn_setitem (R : Room 10 A) (B : Below A₀ base outer h₀) (F : Fr h₀ L s.heap m) (X₀ : (hd.heap_39 w.params).In h₀) (N : News h₀ L s.heap news) (T : Top p loose mean mg mb h₀) (hA : A.frames = some (env :: outer)) (hf : env.frame = some L) (hke : env.scope.kind = .function)
    {e ka va d d1 d2 : Addr} {n : Int} {t1 t2 : Tok} {news' : List (Addr × Obj)} (U : Upd e (⟨.ref 324, some d, .dict #[] 0, #[]⟩ : Obj) (entO d (entHash w.params) ka va) news news') (hk : (ka, nameO d1 t1) ∈ news) (hv : (va, numO d2 n t2) ∈ news)
    (h : ∀ h' tk, Fr h₀ L h' m → News h₀ L h' news' → Q .none { s with heap := h', toks := tk }) :
    wpAny (model PG w) A (call (.ref 285) [.ref e, .ref ka, .ref va] []) Q E s := by
  refine wpAny_call ?_
  refine' code_def B F X₀ N T hA hf hke ?k6 ?k7 ?k8 ?k9 ?kB ?_ ?c2 ?c3 ?c4 ?c5
  case k6 => k_is
  case k7 => k_is
  case k8 => have := R.dp; show A.depth < 1000; omega
  case k9 => exact BindsTo.of_eq rfl
  case c5 => decide
  case kB => exact locs rfl
  case c2 => exact rfl
  case c3 => exact rfl
  case c4 => exact rfl
  intro g' L' h' FG' F' N' B' X' T'
  k_steps
end
end Mine
end
section
open PySem PySem.W PySem.W.X PyProof.Rows
set_option maxRecDepth 100000
set_option maxHeartbeats 80000000
namespace Mine
section
variable {A A₀ : Around} {E : Value → Shared → Prop} {s : Shared} {w : World} {base h₀ : Heap} {outer : List Env} {env : Env} {L : Addr} {m : Str → Option Value} {news : List (Addr × Obj)}
  {p : Program} {loose : List Str} {mean : ExcName → Option Value} {mg mb : Str → Option Value} {Q : Value → Shared → Prop}
local macro_rules | `(tactic| x_close) => `(tactic| (refine ⟨_, _, _, rfl, (by assumption), ?_⟩; exact ⟨_, _, rfl, (by k_mem)⟩))
theorem run_dict0 (X : (hd.heap_39 w.params).In s.heap) :
    wpAny (model PG w) A9 (call (.ref 324) [] []) (MadePost s fun v nw => ∃ a d, v = .ref a ∧ (a, (⟨.ref 324, some d, .dict #[] 0, #[]⟩ : Obj)) ∈ nw) E s := by
  x_run
local macro_rules | `(tactic| x_close) => `(tactic| (refine ⟨_, _, _, rfl, (by assumption), ?_⟩; exact ⟨_, _, _, rfl, (by k_mem)⟩))
theorem run_name {t : Tok} (X : (hd.heap_39 w.params).In s.heap) :
    wpAny (model PG w) A9 (call (.ref 210) [.str (Str.ofString "/St") t] []) (MadePost s fun v nw => ∃ a d t', v = .ref a ∧ (a, nameO d t') ∈ nw) E s := by
  x_run

/-- what is made goes onto the ledger -/
theorem made_K {t : Sem Value} {P : Value → List (Addr × Obj) → Prop} (R : AOk A) (F : Fr h₀ L s.heap m) (N : News h₀ L s.heap news) (r : wpAny (model PG w) A9 t (MadePost s P) E s)
    (h : ∀ v nw h' tk, P v nw → Fr h₀ L h' m → News h₀ L h' (nw ++ news) → (∀ q ∈ nw, ∀ c ∈ news, c.1 ≠ q.1) → (nw.map (·.1)).Pairwise (· > ·) → Q v { s with heap := h', toks := tk }) : wpAny (model PG w) A t Q E s := by
  refine R.run (wpAny_mono r (fun v s' q => ?_) fun _ _ e => e)
  obtain ⟨tk, h', nw, rfl, D, hp⟩ := q
  exact h v nw h' tk hp (fr_keep F (mem_keep D)) (news_add F N D) (fun q hq c hc => off_of N (D.nw q hq).2 c hc) D.ord
theorem news_one' {h : Heap} {nw : List (Addr × Obj)} {q : Addr × Obj} (N : News h₀ L h (nw ++ news)) (hq : q ∈ nw) : News h₀ L h (q :: news) := fun c hc => by
  rcases List.mem_cons.mp hc with rfl | hc
  · exact N _ (List.mem_append_left _ hq)
  · exact N _ (List.mem_append_right _ hc)
theorem mk_number {k : Int} {t : Tok} (R : AOk A) (F : Fr h₀ L s.heap m) (X₀ : (hd.heap_39 w.params).In h₀) (N : News h₀ L s.heap news)
    (h : ∀ a d t' h' tk, Fr h₀ L h' m → News h₀ L h' ((a, numO d k t') :: news) → (∀ c ∈ news, c.1 ≠ a) → Q (.ref a) { s with heap := h', toks := tk }) :
    wpAny (model PG w) A (call (.ref 145) [.int k t] []) Q E s := by
  refine made_K R F N (run_number k t (X₀.keeps F.keep)) ?_
  rintro _ nw h' tk ⟨a, d, t', rfl, hm⟩ F' N' off _
  exact h a d t' h' tk F' (news_one' N' hm) (off _ hm)
theorem mk_name {t : Tok} (R : AOk A) (F : Fr h₀ L s.heap m) (X₀ : (hd.heap_39 w.params).In h₀) (N : News h₀ L s.heap news)
    (h : ∀ a d t' h' tk, Fr h₀ L h' m → News h₀ L h' ((a, nameO d t') :: news) → (∀ c ∈ news, c.1 ≠ a) → Q (.ref a) { s with heap := h', toks := tk }) :
    wpAny (model PG w) A (call (.ref 210) [.str (Str.ofString "/St") t] []) Q E s := by
  refine made_K R F N (run_name (X₀.keeps F.keep)) ?_
  rintro _ nw h' tk ⟨a, d, t', rfl, hm⟩ F' N' off _
  exact h a d t' h' tk F' (news_one' N' hm) (off _ hm)
theorem mk_dict0 (R : AOk A) (F : Fr h₀ L s.heap m) (X₀ : (hd.heap_39 w.params).In h₀) (N : News h₀ L s.heap news)
    (h : ∀ a d h' tk, Fr h₀ L h' m → News h₀ L h' ((a, (⟨.ref 324, some d, .dict #[] 0, #[]⟩ : Obj)) :: news) → (∀ c ∈ news, c.1 ≠ a) → Q (.ref a) { s with heap := h', toks := tk }) :
    wpAny (model PG w) A (call (.ref 324) [] []) Q E s := by
  refine made_K R F N (run_dict0 (X₀.keeps F.keep)) ?_
  rintro _ nw h' tk ⟨a, d, rfl, hm⟩ F' N' off _
  exact h a d h' tk F' (news_one' N' hm) (off _ hm)
theorem mk_array0 (R : AOk A) (F : Fr h₀ L s.heap m) (X₀ : (hd.heap_39 w.params).In h₀) (N : News h₀ L s.heap news)
    (h : ∀ a d h' tk, Fr h₀ L h' m → News h₀ L h' ((a, arrO d #[] 0) :: (d, W.dictOf [] 0) :: news) → (∀ c ∈ news, c.1 ≠ a) → (∀ c ∈ news, c.1 ≠ d) → a ≠ d → Q (.ref a) { s with heap := h', toks := tk }) :
    wpAny (model PG w) A (call (.ref 260) [] []) Q E s := by
  refine made_K R F N (run_array0 (X₀.keeps F.keep)) ?_
  rintro _ nw h' tk ⟨a, d, rfl, hm, hm'⟩ F' N' off _
  refine h a d h' tk F' (fun c hc => ?_) (off _ hm) (off _ hm') ?_
  · rcases List.mem_cons.mp hc with rfl | hc
    · exact N' _ (List.mem_append_left _ hm)
    rcases List.mem_cons.mp hc with rfl | hc
    · exact N' _ (List.mem_append_left _ hm')
    · exact N' _ (List.mem_append_right _ hc)
  · rintro rfl
    have h1 := (N' _ (List.mem_append_left _ hm)).1
    have h2 := (N' _ (List.mem_append_left _ hm')).1
    rw [h1] at h2
    cases h2
end
end Mine
end
section
open PySem PySem.W PySem.W.X PyProof.Rows
set_option maxRecDepth 100000
set_option maxHeartbeats 80000000
namespace Mine
local macro_rules | `(tactic| walk_at "never S10 0") => `(tactic| fail "never")
local macro_rules | `(tactic| walk_at "never S10 1") => `(tactic| fail "never")
local macro_rules | `(tactic| walk_at "never S10 2") => `(tactic| fail "never")
local macro_rules | `(tactic| walk_at "never S10 3") => `(tactic| fail "never")
local macro_rules | `(tactic| walk_at "never S10 4") => `(tactic| fail "never")
local macro_rules | `(tactic| walk_at "never S10 5") => `(tactic| fail "never")
local macro_rules | `(tactic| walk_at "never S10 6") => `(tactic| fail "never")
local macro_rules | `(tactic| walk_at "never S10 7") => `(tactic| fail "never")
local macro_rules | `(tactic| walk_at "never S10 8") => `(tactic| fail "never")
local macro_rules | `(tactic| walk_at "never S10 9") => `(tactic| fail "never")
local macro_rules | `(tactic| walk_at "never S10 10") => `(tactic| fail "never")
local macro_rules | `(tactic| walk_at "never S10 11") => `(tactic| fail "never")
local macro_rules | `(tactic| walk_at "never S10 12") => `(tactic| fail "never")
local macro_rules | `(tactic| walk_at "never S10 13") => `(tactic| fail "never")
local macro_rules | `(tactic| walk_at "never S10 14") => `(tactic| fail "never")
local macro_rules | `(tactic| walk_at "never S10 15") => `(tactic| fail "never")
local macro_rules | `(tactic| walk_at "never S10 16") => `(tactic| fail "never")
local macro_rules | `(tactic| walk_at "never S10 17") => `(tactic| fail "never")
local macro_rules | `(tactic| walk_at "never S10 18") => `(tactic| fail "never")
local macro_rules | `(tactic| walk_at "never S10 19") => `(tactic| fail "never")
local macro_rules | `(tactic| walk_at "never S10 20") => `(tactic| fail "never")
local macro_rules | `(tactic| walk_at "never S10 21") => `(tactic| fail "never")
local macro_rules | `(tactic| walk_at "never S10 22") => `(tactic| fail "never")
local macro_rules | `(tactic| walk_at "never S10 23") => `(tactic| fail "never")
local macro_rules | `(tactic| walk_at "never S10 24") => `(tactic| fail "never")
local macro_rules | `(tactic| walk_at "never S10 25") => `(tactic| fail "never")
local macro_rules | `(tactic| walk_at "never S10 26") => `(tactic| fail "never")
local macro_rules | `(tactic| walk_at "never S10 27") => `(tactic| fail "never")
local macro_rules | `(tactic| walk_at "never S10 28") => `(tactic| fail "never")
local macro_rules | `(tactic| walk_at "never S10 29") => `(tactic| fail "never")
theorem fill10 : hd.heap_39 = hd.heap_39 ∧ PySem.Challenge.rw_ee5012_01 = PySem.Challenge.rw_ee5012_01 := by
  k_fill
  exact ⟨rfl, rfl⟩
section
variable {A A₀ : Around} {E : Value → Shared → Prop} {s : Shared} {w : World} {base h₀ : Heap} {outer : List Env} {env : Env} {L : Addr} {m : Str → Option Value} {news : List (Addr × Obj)}
  {p : Program} {loose : List Str} {mean : ExcName → Option Value} {mg mb : Str → Option Value}
theorem setItem_ent {Q : Unit → Shared → Prop} (R : Room 11 A) (B : Below A₀ base outer h₀) (F : Fr h₀ L s.heap m) (X₀ : (hd.heap_39 w.params).In h₀) (T : Top p loose mean mg mb h₀) (hA : A.frames = some (env :: outer)) (hf : env.frame = some L) (hke : env.scope.kind = .function)
    {e ka va d d1 d2 : Addr} {n : Int} {t1 t2 : Tok} (N : News h₀ L s.heap ((ka, nameO d1 t1) :: (va, numO d2 n t2) :: (e, (⟨.ref 324, some d, .dict #[] 0, #[]⟩ : Obj)) :: news))
    (o1 : ∀ c ∈ (va, numO d2 n t2) :: (e, (⟨.ref 324, some d, .dict #[] 0, #[]⟩ : Obj)) :: news, c.1 ≠ ka) (o2 : ∀ c ∈ (e, (⟨.ref 324, some d, .dict #[] 0, #[]⟩ : Obj)) :: news, c.1 ≠ va) (o3 : ∀ c ∈ news, c.1 ≠ e)
    (h : ∀ h' tk, Fr h₀ L h' m → News h₀ L h' ((ka, nameO d1 t1) :: (va, numO d2 n t2) :: (e, entO d (entHash w.params) ka va) :: news) → Q () { s with heap := h', toks := tk }) :
    wpAny (model PG w) A (setItem (.ref e) (.ref ka) (.ref va)) Q E s := by
  have X := X₀.keeps F.keep
  have he := (N (e, _) (.tail _ (.tail _ (.head _)))).1
  have U : Upd e (⟨.ref 324, some d, .dict #[] 0, #[]⟩ : Obj) (entO d (entHash w.params) ka va) ((ka, nameO d1 t1) :: (va, numO d2 n t2) :: (e, (⟨.ref 324, some d, .dict #[] 0, #[]⟩ : Obj)) :: news) ((ka, nameO d1 t1) :: (va, numO d2 n t2) :: (e, entO d (entHash w.params) ka va) :: news) :=
    .tail (Ne.symm (o1 _ (.tail _ (.head _)))) (.tail (Ne.symm (o2 _ (.head _))) (.head o3))
  unfold setItem
  have hk : wpAny (model PG w) A (sequenceKey (.ref e) (.ref ka) "__setitem__") (fun k s' => k = .ref ka ∧ s' = s) E s := by
    unfold sequenceKey
    refine wpAny_bind ((own_type he rfl).here ?_)
    have hb : Looks (model PG w) s.heap (isSubtype (.ref 324) (.type "collections.deque")) false := looks_mroIn X (by kernel_rfl)
    have ht : Looks (model PG w) s.heap (seqItemTypes.anyM fun n => isSubtype (.ref 324) (.type n)) false := by
      unfold seqItemTypes
      exact hb.andThen .now
    refine wpAny_bind (ht.here ?_)
    simp only [Bool.not_false, if_true]
    exact wpAny_pure ⟨rfl, rfl⟩
  refine wpAny_holding (wpAny_bind (wpAny_mono hk (fun k s' q => ?_) fun _ _ e => e))
  obtain ⟨rfl, rfl⟩ := q
  unfold callSpecial?
  refine wpAny_bind (wpAny_bind ((own_special X he rfl (r := some (.ref 285)) (by kernel_rfl)).here (wpAny_holding ?_)))
  have hb : Looks (model PG w) s'.heap (bindSpecial (.ref 285) (.ref e)) (.ref 285, [.ref e]) := bind_fn X _ (by kernel_rfl)
  refine wpAny_bind (hb.here ?_)
  refine wpAny_bind (fn_setitem (R.less (by decide)) B F X₀ N T hA hf hke U (.head _) (.tail _ (.head _)) fun h' tk F' N' => ?_)
  exact wpAny_pure (wpAny_pure (h h' tk F' N'))

theorem deeper_frames {A : Around} {e : Env} {l : List Env} (h : A.frames = some l) : (A.deeper e).frames = some (e :: l) := by
  show A.frames.map _ = _
  rw [h]; rfl
local macro_rules | `(tactic| walk_at "setItem ref ref") => `(tactic| (k_here; k_dflt (refine' setItem_ent (Room.deeper (Room.less (by assumption) (by decide))) (by assumption) (by assumption) (by assumption) (by assumption) (deeper_frames (by assumption)) (by rfl) (by rfl) (by assumption) (by assumption) (by assumption) (by assumption) ?_); intro h' tk' F' N'; k_sweep))
local macro_rules | `(tactic| walk_at "call ref") => `(tactic| (k_here; k_dflt (first
  | ((with_reducible show wpAny _ _ (call (Value.ref 324) _) _ _ _); (refine' mk_dict0 (Room.ok (n := 0) (Room.deeper (Room.less (by assumption) (by decide)))) (by assumption) (by assumption) (by assumption) ?_); intro a' d' h' tk' F' N' off'; k_sweep)
  | ((with_reducible show wpAny _ _ (call (Value.ref 145) _) _ _ _); (refine' mk_number (Room.ok (n := 0) (Room.deeper (Room.less (by assumption) (by decide)))) (by assumption) (by assumption) (by assumption) ?_); intro a' d' t' h' tk' F' N' off'; k_sweep)
  | ((with_reducible show wpAny _ _ (call (Value.ref 210) _) _ _ _); (refine' mk_name (Room.ok (n := 0) (Room.deeper (Room.less (by assumption) (by decide)))) (by assumption) (by assumption) (by assumption) ?_); intro a' d' t' h' tk' F' N' off'; k_sweep))))
local macro_rules | `(tactic| kc_close) => `(tactic| (apply_assumption <;> assumption))
theorem off_t1 {l : List (Addr × Obj)} {x : Addr × Obj} {a : Addr} (h : ∀ c ∈ x :: l, c.1 ≠ a) : ∀ c ∈ l, c.1 ≠ a := fun c hc => h c (.tail _ hc)
theorem off_t2 {l : List (Addr × Obj)} {x y : Addr × Obj} {a : Addr} (h : ∀ c ∈ x :: y :: l, c.1 ≠ a) : ∀ c ∈ l, c.1 ≠ a := fun c hc => h c (.tail _ (.tail _ hc))
theorem fn_entry {Q : Value → Shared → Prop} (R : Room 14 A) (B : Below A₀ base outer h₀) (F : Fr h₀ L s.heap m) (X₀ : (hd.heap_39 w.params).In h₀) (N : News h₀ L s.heap news) (T : Top p loose mean mg mb h₀) (hA : A.frames = some (env :: outer)) (hf : env.frame = some L) (hke : env.scope.kind = .function)
    {n : Int} {t : Tok}
    (h : ∀ a d ka va d1 t1 d2 t2 h' tk, Fr h₀ L h' m → News h₀ L h' ((ka, nameO d1 t1) :: (va, numO d2 n t2) :: (a, entO d (entHash w.params) ka va) :: news) →
      (∀ c ∈ news, c.1 ≠ a) → (∀ c ∈ news, c.1 ≠ ka) → (∀ c ∈ news, c.1 ≠ va) → Q (.ref a) { s with heap := h', toks := tk }) :
    wpAny (model PG w) A (call (.ref 349) [.int n t] []) Q E s := by
  refine wpAny_call ?_
  refine' code_def B F X₀ N T hA hf hke ?k6 ?k7 ?k8 ?k9 ?kB ?_ ?c2 ?c3 ?c4 ?c5
  case k6 => k_is
  case k7 => k_is
  case k8 => have := R.dp; show A.depth < 1000; omega
  case k9 => exact BindsTo.of_eq rfl
  case c5 => decide
  case kB => exact locs rfl
  case c2 => exact rfl
  case c3 => exact rfl
  case c4 => exact rfl
  intro g' L' h' FG' F' N' B' X' T'
  k_steps
  all_goals exact h _ _ _ _ _ _ _ _ _ _ (by assumption) (by assumption) (by assumption) (off_t2 (by assumption)) (off_t1 (by assumption))
end
end Mine
end
section
open PySem PySem.W PySem.W.X PyProof.Rows
set_option maxRecDepth 100000
set_option maxHeartbeats 80000000
namespace Mine
structure Cell where
  ka : Addr
  ea : Addr
  k : Int
  n : Int
def vals : List Cell → List Value
  | [] => []
  | c :: r => .ref c.ka :: .ref c.ea :: vals r
theorem vals_len : ∀ rs, (vals rs).length = 2 * rs.length
  | [] => rfl
  | c :: r => by simp [vals, vals_len r]; omega
theorem vals_app : ∀ a b, vals (a ++ b) = vals a ++ vals b
  | [], b => rfl
  | c :: r, b => by simp [vals, vals_app r b]
theorem vals_key : ∀ {rs : List Cell} {j : Nat} {c : Cell}, rs[j]? = some c → (vals rs)[2 * j]? = some (.ref c.ka)
  | [], j, c, h => by simp at h
  | a :: r, 0, c, h => by simp at h; subst h; rfl
  | a :: r, j + 1, c, h => by
    simp at h
    have := vals_key h
    rw [show 2 * (j + 1) = 2 * j + 1 + 1 by omega]
    simpa [vals] using this
theorem vals_ent : ∀ {rs : List Cell} {j : Nat} {c : Cell}, rs[j]? = some c → (vals rs)[2 * j + 1]? = some (.ref c.ea)
  | [], j, c, h => by simp at h
  | a :: r, 0, c, h => by simp at h; subst h; rfl
  | a :: r, j + 1, c, h => by
    simp at h
    have := vals_ent h
    rw [show 2 * (j + 1) + 1 = 2 * j + 1 + 1 + 1 by omega]
    simpa [vals] using this
def NumIn (news : List (Addr × Obj)) (a : Addr) (k : Int) : Prop := ∃ d t, (a, numO d k t) ∈ news
def EntIn (H : Int) (news : List (Addr × Obj)) (e : Addr) (n : Int) : Prop := ∃ d na va d1 t1 d2 t2, (e, entO d H na va) ∈ news ∧ (na, nameO d1 t1) ∈ news ∧ (va, numO d2 n t2) ∈ news
def RowIn (H : Int) (news : List (Addr × Obj)) (rs : List Cell) : Prop := ∀ c ∈ rs, NumIn news c.ka c.k ∧ EntIn H news c.ea c.n
/-- what is of a class of the text but the row's own stays -/
def Stay (news news' : List (Addr × Obj)) : Prop := ∀ q ∈ news, (q.2.cls = .ref 145 ∨ q.2.cls = .ref 210 ∨ q.2.cls = .ref 324) → q ∈ news'
theorem Stay.trans {a b c : List (Addr × Obj)} (h : Stay a b) (h' : Stay b c) : Stay a c := fun q hq z => h' q (h q hq z) z
theorem Stay.of_sub {a b : List (Addr × Obj)} (h : ∀ q ∈ a, q ∈ b) : Stay a b := fun q hq _ => h q hq
theorem NumIn.stay {a b : List (Addr × Obj)} {x : Addr} {k : Int} (h : NumIn a x k) (st : Stay a b) : NumIn b x k := by
  obtain ⟨d, t, h⟩ := h
  exact ⟨d, t, st _ h (.inl rfl)⟩
theorem EntIn.stay {H : Int} {a b : List (Addr × Obj)} {x : Addr} {k : Int} (h : EntIn H a x k) (st : Stay a b) : EntIn H b x k := by
  obtain ⟨d, na, va, d1, t1, d2, t2, h1, h2, h3⟩ := h
  exact ⟨d, na, va, d1, t1, d2, t2, st _ h1 (.inr (.inr rfl)), st _ h2 (.inr (.inl rfl)), st _ h3 (.inl rfl)⟩
theorem RowIn.stay {H : Int} {a b : List (Addr × Obj)} {rs : List Cell} (h : RowIn H a rs) (st : Stay a b) : RowIn H b rs := fun c hc => ⟨(h c hc).1.stay st, (h c hc).2.stay st⟩
theorem RowIn.at {H : Int} {a : List (Addr × Obj)} {rs : List Cell} (h : RowIn H a rs) {j : Nat} {c : Cell} (hc : rs[j]? = some c) : NumIn a c.ka c.k ∧ EntIn H a c.ea c.n := h c (List.mem_of_getElem? hc)

section
variable {h₀ : Heap} {L : Addr} {m : Str → Option Value} {news : List (Addr × Obj)} {g : Obj → List (Addr × Obj)} {e : Addr} {o o' : Obj}
theorem updF_mem (U : UpdF e o news g) : (e, o) ∈ news := by
  obtain ⟨pre, post, rfl, hg, h1, h2⟩ := U.split
  simp
theorem updF_mem' (U : UpdF e o news g) (o' : Obj) : (e, o') ∈ g o' := by
  obtain ⟨pre, post, rfl, hg, h1, h2⟩ := U.split
  rw [hg]; simp
theorem updF_stays (U : UpdF e o news g) (o' : Obj) {q : Addr × Obj} (hq : q ∈ news) (hne : q.1 ≠ e) : q ∈ g o' := by
  obtain ⟨pre, post, rfl, hg, h1, h2⟩ := U.split
  rw [hg]
  rcases List.mem_append.mp hq with hq | hq
  · exact List.mem_append_left _ hq
  · rcases List.mem_cons.mp hq with rfl | hq
    · exact absurd rfl hne
    · exact List.mem_append_right _ (.tail _ hq)
theorem updF_back (U : UpdF e o news g) {o' : Obj} {q : Addr × Obj} (hq : q ∈ g o') : q = (e, o') ∨ (q ∈ news ∧ q.1 ≠ e) := by
  obtain ⟨pre, post, rfl, hg, h1, h2⟩ := U.split
  rw [hg] at hq
  rcases List.mem_append.mp hq with hq | hq
  · exact .inr ⟨List.mem_append_left _ hq, h1 q hq⟩
  · rcases List.mem_cons.mp hq with rfl | hq
    · exact .inl rfl
    · exact .inr ⟨List.mem_append_right _ (.tail _ hq), h2 q hq⟩
theorem updF_again (U : UpdF e o news g) (o' : Obj) : UpdF e o' (g o') g := by
  induction U with
  | head h => exact .head h
  | tail h _ ih => exact .tail h ih
theorem news_updF {h h' : Heap} (N : News h₀ L h news) (U : UpdF e o news g) (kp : ∀ c o, c ≠ e → h.get? c = some o → h'.get? c = some o) (hg : h'.get? e = some o') : News h₀ L h' (g o') := by
  have D := N (e, o) (updF_mem U)
  intro q hq
  rcases updF_back U hq with rfl | ⟨hq, hne⟩
  · exact ⟨hg, D.2⟩
  · exact ⟨kp _ _ hne (N q hq).1, (N q hq).2⟩
theorem stay_updF (U : UpdF e o news g) (hc : o.cls ≠ .ref 145 ∧ o.cls ≠ .ref 210 ∧ o.cls ≠ .ref 324) (o' : Obj) : Stay news (g o') := by
  obtain ⟨pre, post, rfl, hg, h1, h2⟩ := U.split
  intro q hq z
  rw [hg]
  rcases List.mem_append.mp hq with hq | hq
  · exact List.mem_append_left _ hq
  · rcases List.mem_cons.mp hq with rfl | hq
    · rcases z with z | z | z
      · exact absurd z hc.1
      · exact absurd z hc.2.1
      · exact absurd z hc.2.2
    · exact List.mem_append_right _ (.tail _ hq)
end
section
variable {A : Around} {E : Value → Shared → Prop} {s : Shared} {w : World} {h₀ : Heap} {L na d : Addr} {m : Str → Option Value} {news : List (Addr × Obj)} {g : Obj → List (Addr × Obj)} {vs : Array Value} {rs : List Cell} {ep es : Nat}
theorem arr_upd_K {f : Array Value → Array Value} {vs' : Array Value} (F : Fr h₀ L s.heap m) (N : News h₀ L s.heap news) (U : UpdF na (arrO d vs ep) news g) (hf : f vs = vs') :
    Fr h₀ L (s.heap.update na (Obj.mapSeq f)) m ∧ ∃ ep', News h₀ L (s.heap.update na (Obj.mapSeq f)) (g (arrO d vs' ep')) := by
  have he := (N _ (updF_mem U)).1
  have hs : Heap.SameBut na s.heap (s.heap.update na (Obj.mapSeq f)) := Heap.SameBut.update ..
  have kp : ∀ c o, c ≠ na → s.heap.get? c = some o → (s.heap.update na (Obj.mapSeq f)).get? c = some o := fun c o hc q => (hs.2 c hc).trans q
  subst hf
  refine ⟨fr_but F N (updF_mem U) kp, if (f vs).size == vs.size then ep else ep + 1, news_updF (o' := arrO d (f vs) (if (f vs).size == vs.size then ep else ep + 1)) N U kp ?_⟩
  rw [Heap.get?_update_self _ he rfl]
  rfl
theorem len_K {Q : Value → Shared → Prop} (F : Fr h₀ L s.heap m) (X₀ : (hd.heap_39 w.params).In h₀) (N : News h₀ L s.heap news) (hm : (na, arrO d vs ep) ∈ news) (hz : vs.size ≤ 1000)
    (h : Q (.int vs.size (s.toks + 1)) { s with toks := s.toks + 1 + 1 }) : wpAny (model PG w) A (call (.builtin "len") [.ref na]) Q E s := arr_len (X₀.keeps F.keep) (N _ hm).1 hz h
theorem rowLen_K {Q : Value → Shared → Prop} (F : Fr h₀ L s.heap m) (X₀ : (hd.heap_39 w.params).In h₀) (N : News h₀ L s.heap news) (hm : (na, arrO d (vals rs).toArray ep) ∈ news) (hz : rs.length ≤ 400)
    (h : Q (.int (2 * (rs.length : Int)) (s.toks + 1)) { s with toks := s.toks + 1 + 1 }) : wpAny (model PG w) A (call (.builtin "len") [.ref na]) Q E s := by
  have e : ((vals rs).toArray.size : Int) = 2 * (rs.length : Int) := by rw [List.size_toArray, vals_len]; omega
  refine len_K F X₀ N hm (by rw [List.size_toArray, vals_len]; omega) ?_
  rw [e]; exact h
theorem subKey_K {value slice : Expr} {j : Nat} {c : Cell} {i : Int} {u : Tok} {Q : Value → Shared → Prop} (F : Fr h₀ L s.heap m) (X₀ : (hd.heap_39 w.params).In h₀) (N : News h₀ L s.heap news) (hm : (na, arrO d (vals rs).toArray ep) ∈ news)
    (hc : rs[j]? = some c) (hi : i = 2 * (j : Int)) (hj : j ≤ 400) (h : Q (.ref c.ka) s) (hs : subscripted slice false (.ref na) (.int i u) = operate [.ref na, .int i u] (getItem (.ref na) (.int i u)) := by with_unfolding_all rfl) :
    wpAny (model PG w) A (subscriptTail value slice (.ref na) (.int i u)) Q E s :=
  arr_sub (k := 2 * j) (X₀.keeps F.keep) (N _ hm).1 (by omega) (by omega) (by rw [List.getElem?_toArray]; exact vals_key hc) h hs
theorem subEnt_K {value slice : Expr} {j : Nat} {c : Cell} {i : Int} {u : Tok} {Q : Value → Shared → Prop} (F : Fr h₀ L s.heap m) (X₀ : (hd.heap_39 w.params).In h₀) (N : News h₀ L s.heap news) (hm : (na, arrO d (vals rs).toArray ep) ∈ news)
    (hc : rs[j]? = some c) (hi : i = 2 * (j : Int) + 1) (hj : j ≤ 400) (h : Q (.ref c.ea) s) (hs : subscripted slice false (.ref na) (.int i u) = operate [.ref na, .int i u] (getItem (.ref na) (.int i u)) := by with_unfolding_all rfl) :
    wpAny (model PG w) A (subscriptTail value slice (.ref na) (.int i u)) Q E s :=
  arr_sub (k := 2 * j + 1) (X₀.keeps F.keep) (N _ hm).1 (by omega) (by omega) (by rw [List.getElem?_toArray]; exact vals_ent hc) h hs
theorem leNN_K {a b : Addr} {k j : Int} {Q : Value → Shared → Prop} (R : AOk A) (F : Fr h₀ L s.heap m) (X₀ : (hd.heap_39 w.params).In h₀) (N : News h₀ L s.heap news) (ha : NumIn news a k) (hb : NumIn news b j) (h : ∀ tk, Q (.bool (decide (k ≤ j))) { s with toks := tk }) :
    wpAny (model PG w) A (compareOp .LtE (.ref a) (.ref b)) Q E s := by
  obtain ⟨d1, t1, ha⟩ := ha
  obtain ⟨d2, t2, hb⟩ := hb
  exact cmp_le_nn R (X₀.keeps F.keep) (N _ ha).1 (N _ hb).1 h
theorem eqNN_K {a b : Addr} {k j : Int} {Q : Value → Shared → Prop} (R : AOk A) (F : Fr h₀ L s.heap m) (X₀ : (hd.heap_39 w.params).In h₀) (N : News h₀ L s.heap news) (ha : NumIn news a k) (hb : NumIn news b j) (h : ∀ tk, Q (.bool (decide (k = j))) { s with toks := tk }) :
    wpAny (model PG w) A (compareOp .Eq (.ref a) (.ref b)) Q E s := by
  obtain ⟨d1, t1, ha⟩ := ha
  obtain ⟨d2, t2, hb⟩ := hb
  exact cmp_ofEq (rc_eq_nn R (X₀.keeps F.keep) (N _ ha).1 (N _ hb).1 h)
theorem leNI_K {a : Addr} {k j : Int} {u : Tok} {Q : Value → Shared → Prop} (R : AOk A) (F : Fr h₀ L s.heap m) (X₀ : (hd.heap_39 w.params).In h₀) (N : News h₀ L s.heap news) (ha : NumIn news a k) (h : ∀ tk, Q (.bool (decide (k ≤ j))) { s with toks := tk }) :
    wpAny (model PG w) A (compareOp .LtE (.ref a) (.int j u)) Q E s := by
  obtain ⟨d1, t1, ha⟩ := ha
  exact cmp_le_ni R (X₀.keeps F.keep) (N _ ha).1 h
theorem neNI_K {a : Addr} {k j : Int} {u : Tok} {Q : Value → Shared → Prop} (R : AOk A) (F : Fr h₀ L s.heap m) (X₀ : (hd.heap_39 w.params).In h₀) (N : News h₀ L s.heap news) (ha : NumIn news a k) (h : ∀ tk, Q (.bool (decide (k ≠ j))) { s with toks := tk }) :
    wpAny (model PG w) A (compareOp .NotEq (.ref a) (.int j u)) Q E s := by
  obtain ⟨d1, t1, ha⟩ := ha
  exact cmp_ne_ni R (X₀.keeps F.keep) (N _ ha).1 h
theorem set_K {l1 l2 : List Value} {x v : Value} {i : Int} {u : Tok} {Q : Unit → Shared → Prop} (F : Fr h₀ L s.heap m) (X₀ : (hd.heap_39 w.params).In h₀) (N : News h₀ L s.heap news) (U : UpdF na (arrO d vs ep) news g)
    (hv : vs = (l1 ++ x :: l2).toArray) (hi : i = (l1.length : Int)) (hz : vs.size ≤ 900) (h : ∀ ep' h', Fr h₀ L h' m → News h₀ L h' (g (arrO d (l1 ++ v :: l2).toArray ep')) → Q () { s with heap := h' }) :
    wpAny (model PG w) A (setItem (.ref na) (.int i u) v) Q E s := by
  subst hv
  simp only [List.size_toArray, List.length_append, List.length_cons] at hz
  refine arr_setItem (k := l1.length) (X₀.keeps F.keep) (N _ (updF_mem U)).1 hi (by omega) (by simp) ?_
  obtain ⟨F', ep', N'⟩ := arr_upd_K (f := fun ys => ys.setIfInBounds l1.length v) (vs' := (l1 ++ v :: l2).toArray) F N U (by simp)
  exact h ep' _ F' N'
theorem insert_K {l1 l2 : List Value} {v : Value} {i : Int} {u : Tok} {Q : Value → Shared → Prop} (F : Fr h₀ L s.heap m) (X₀ : (hd.heap_39 w.params).In h₀) (N : News h₀ L s.heap news) (U : UpdF na (arrO d vs ep) news g)
    (hv : vs = (l1 ++ l2).toArray) (hi : i = (l1.length : Int)) (hz : vs.size ≤ 900) (h : ∀ ep' h', Fr h₀ L h' m → News h₀ L h' (g (arrO d (l1 ++ v :: l2).toArray ep')) → Q .none { s with heap := h' }) :
    wpAny (model PG w) A (call (.builtin "list.insert") [.ref na, .int i u, v]) Q E s := by
  subst hv
  simp only [List.size_toArray, List.length_append] at hz
  refine arr_insert (k := l1.length) (X₀.keeps F.keep) (N _ (updF_mem U)).1 hi (by simp; omega) (by simp) ?_
  obtain ⟨F', ep', N'⟩ := arr_upd_K (f := fun xs => have k := if i < 0 then (i + (xs.size : Int)).toNat else min i.toNat xs.size; (xs.extract 0 k).push v ++ xs.extract k) (vs' := (l1 ++ v :: l2).toArray) F N U (by
    have h1 : ¬ i < 0 := by omega
    have h2 : i.toNat = l1.length := by omega
    simp only [h1, h2, if_false, List.size_toArray, List.length_append]
    rw [Nat.min_eq_left (by omega)]
    simp)
  exact h ep' _ F' N'
theorem pop_K {l1 l2 : List Value} {x : Value} {i : Int} {u : Tok} {Q : Value → Shared → Prop} (F : Fr h₀ L s.heap m) (X₀ : (hd.heap_39 w.params).In h₀) (N : News h₀ L s.heap news) (U : UpdF na (arrO d vs ep) news g)
    (hv : vs = (l1 ++ x :: l2).toArray) (hi : i = (l1.length : Int)) (hz : vs.size ≤ 900) (h : ∀ ep' h', Fr h₀ L h' m → News h₀ L h' (g (arrO d (l1 ++ l2).toArray ep')) → Q x { s with heap := h' }) :
    wpAny (model PG w) A (call (.builtin "list.pop") [.ref na, .int i u]) Q E s := by
  subst hv
  simp only [List.size_toArray, List.length_append, List.length_cons] at hz
  refine arr_pop (k := l1.length) (v := x) (X₀.keeps F.keep) (N _ (updF_mem U)).1 hi (by simp; omega) (by simp) ?_
  obtain ⟨F', ep', N'⟩ := arr_upd_K (f := fun xs => xs.eraseIdxIfInBounds l1.length) (vs' := (l1 ++ l2).toArray) F N U (by
    simp [List.eraseIdx_append_of_length_le])
  exact h ep' _ F' N'
theorem meth_insert_K {pl : Sem Bool} {Q : Value × List Value → Shared → Prop} (F : Fr h₀ L s.heap m) (X₀ : (hd.heap_39 w.params).In h₀) (N : News h₀ L s.heap news) (hm : (na, arrO d vs ep) ∈ news) (hdd : (d, W.dictOf [] es) ∈ news) (h : Q (.builtin "list.insert", [.ref na]) s) :
    wpAny (model PG w) A (getMethod (.ref na) (Str.ofString "insert") pl) Q E s := arr_method (X₀.keeps F.keep) (N _ hm).1 (N _ hdd).1 (by kernel_rfl) PySem.F.type_list_insert h
theorem meth_index_K {pl : Sem Bool} {Q : Value × List Value → Shared → Prop} (F : Fr h₀ L s.heap m) (X₀ : (hd.heap_39 w.params).In h₀) (N : News h₀ L s.heap news) (hm : (na, arrO d vs ep) ∈ news) (hdd : (d, W.dictOf [] es) ∈ news) (h : Q (.builtin "list.index", [.ref na]) s) :
    wpAny (model PG w) A (getMethod (.ref na) (Str.ofString "index") pl) Q E s := arr_method (X₀.keeps F.keep) (N _ hm).1 (N _ hdd).1 (by kernel_rfl) PySem.F.type_list_index h
theorem meth_pop_K {pl : Sem Bool} {Q : Value × List Value → Shared → Prop} (F : Fr h₀ L s.heap m) (X₀ : (hd.heap_39 w.params).In h₀) (N : News h₀ L s.heap news) (hm : (na, arrO d vs ep) ∈ news) (hdd : (d, W.dictOf [] es) ∈ news) (h : Q (.builtin "list.pop", [.ref na]) s) :
    wpAny (model PG w) A (getMethod (.ref na) (Str.ofString "pop") pl) Q E s := arr_method (X₀.keeps F.keep) (N _ hm).1 (N _ hdd).1 (by kernel_rfl) PySem.F.type_list_pop h
end
end Mine
end
section
open PySem PySem.W PySem.W.X PyProof.Rows
set_option maxRecDepth 100000
set_option maxHeartbeats 80000000
namespace Mine
def Asc (rs : List Cell) : Prop := rs.Pairwise fun a b => a.k < b.k
def look (rs : List Cell) (x : Int) : Option Int := (rs.find? fun c => c.k == x).map (·.n)
def KeyAt (rs : List Cell) (i : Int) (c : Cell) : Prop := ∃ j : Nat, i = 2 * (j : Int) ∧ rs[j]? = some c
theorem KeyAt.lt {rs : List Cell} {i : Int} {c : Cell} (h : KeyAt rs i c) : 0 ≤ i ∧ i < 2 * (rs.length : Int) := by
  obtain ⟨j, rfl, h⟩ := h
  have := (List.getElem?_eq_some_iff.mp h).1
  omega
theorem KeyAt.mem {rs : List Cell} {i : Int} {c : Cell} (h : KeyAt rs i c) : c ∈ rs := by
  obtain ⟨j, rfl, h⟩ := h
  exact List.mem_of_getElem? h
theorem two_fmod (n : Int) : (2 * n).fmod 2 = 0 := by rw [Int.fmod_eq_emod_of_nonneg _ (by decide)]; omega
theorem look_app {a b : List Cell} {x : Int} : look (a ++ b) x = (look a x).or (look b x) := by
  unfold look
  rw [List.find?_append]
  cases List.find? (fun c => c.k == x) a <;> simp
theorem look_cons {c : Cell} {b : List Cell} {x : Int} : look (c :: b) x = if c.k = x then some c.n else look b x := by
  unfold look
  rw [List.find?_cons]
  by_cases h : c.k = x
  · simp [h]
  · rw [if_neg h]
    have : (c.k == x) = false := by simpa using h
    rw [this]
theorem look_none {b : List Cell} {x : Int} (h : ∀ c ∈ b, c.k ≠ x) : look b x = none := by
  unfold look
  rw [List.find?_eq_none.mpr (fun c hc => by simpa using h c hc)]
  rfl
theorem look_mem {rs : List Cell} {c : Cell} (h : Asc rs) (hc : c ∈ rs) : look rs c.k = some c.n := by
  induction rs with
  | nil => cases hc
  | cons a r ih =>
    rw [look_cons]
    rcases List.mem_cons.mp hc with rfl | hc
    · rw [if_pos rfl]
    · have h1 := (List.pairwise_cons.mp h).1 c hc
      rw [if_neg (by omega)]
      exact ih (List.pairwise_cons.mp h).2 hc
theorem look_some {rs : List Cell} {x n : Int} (h : look rs x = some n) : ∃ c ∈ rs, c.k = x ∧ c.n = n := by
  unfold look at h
  cases q : List.find? (fun c => c.k == x) rs with
  | none => rw [q] at h; cases h
  | some c =>
    rw [q] at h
    exact ⟨c, List.mem_of_find?_eq_some q, by simpa using List.find?_some q, Option.some.inj h⟩
/-- all keys ahead of a place lie below what lies there -/
theorem asc_below {rs : List Cell} (h : Asc rs) {j : Nat} {k : Int} (hj : j = 0 ∨ ∃ i c, j = i + 1 ∧ rs[i]? = some c ∧ c.k < k) : ∀ c ∈ rs.take j, c.k < k := by
  intro c hc
  rcases hj with rfl | ⟨i, c', rfl, hi, hk⟩
  · simp at hc
  · obtain ⟨q, hq⟩ := List.mem_iff_getElem?.mp hc
    rw [List.getElem?_take] at hq
    split at hq
    · rename_i hlt
      rcases Nat.lt_or_ge q i with h1 | h1
      · obtain ⟨l1, e1⟩ := List.getElem?_eq_some_iff.mp hq
        obtain ⟨l2, e2⟩ := List.getElem?_eq_some_iff.mp hi
        have := List.pairwise_iff_getElem.mp h q i l1 l2 h1
        rw [e1, e2] at this
        omega
      · have : q = i := by omega
        subst this
        rw [hq] at hi
        cases Option.some.inj hi
        exact hk
    · cases hq
theorem asc_above {rs : List Cell} (h : Asc rs) {j : Nat} {k : Int} (hj : ∀ c, rs[j]? = some c → k < c.k) : ∀ c ∈ rs.drop j, k < c.k := by
  intro c hc
  obtain ⟨q, hq⟩ := List.mem_iff_getElem?.mp hc
  rw [List.getElem?_drop] at hq
  obtain ⟨l1, e1⟩ := List.getElem?_eq_some_iff.mp hq
  have lj : j < rs.length := by omega
  have hj' := hj rs[j] (by simp [lj])
  rcases Nat.eq_zero_or_pos q with rfl | h1
  · have : rs[j] = c := by rw [← e1]; simp
    rw [← this]; exact hj'
  · have := List.pairwise_iff_getElem.mp h j (j + q) lj l1 (by omega)
    rw [e1] at this
    omega
theorem ins_asc {rs : List Cell} (h : Asc rs) {j : Nat} {c : Cell} (h1 : ∀ x ∈ rs.take j, x.k < c.k) (h2 : ∀ x ∈ rs.drop j, c.k < x.k) : Asc (rs.take j ++ c :: rs.drop j) := by
  have h' : Asc (rs.take j ++ rs.drop j) := by rw [List.take_append_drop]; exact h
  obtain ⟨a, b, d⟩ := List.pairwise_append.mp h'
  refine List.pairwise_append.mpr ⟨a, List.pairwise_cons.mpr ⟨h2, b⟩, fun x hx y hy => ?_⟩
  rcases List.mem_cons.mp hy with rfl | hy
  · exact h1 x hx
  · exact d x hx y hy
theorem ins_look {rs : List Cell} {j : Nat} {c : Cell} (h1 : ∀ x ∈ rs.take j, x.k < c.k) (h2 : ∀ x ∈ rs.drop j, c.k < x.k) (x : Int) : look (rs.take j ++ c :: rs.drop j) x = if x = c.k then some c.n else look rs x := by
  rw [look_app, look_cons]
  by_cases e : x = c.k
  · subst e
    rw [if_pos rfl, if_pos rfl, look_none (fun y hy => by have := h1 y hy; omega)]
    rfl
  · rw [if_neg (fun z => e z.symm), if_neg e, ← look_app, List.take_append_drop]
theorem set_split {rs : List Cell} {j : Nat} {c : Cell} (hc : rs[j]? = some c) : rs = rs.take j ++ c :: rs.drop (j + 1) := by
  obtain ⟨l, e⟩ := List.getElem?_eq_some_iff.mp hc
  rw [← e, ← List.drop_eq_getElem_cons l, List.take_append_drop]
theorem set_asc {rs : List Cell} (h : Asc rs) {j : Nat} {c : Cell} (hc : rs[j]? = some c) (e : Addr) (n : Int) : Asc (rs.take j ++ ⟨c.ka, e, c.k, n⟩ :: rs.drop (j + 1)) := by
  rw [set_split hc] at h
  obtain ⟨a, b, d⟩ := List.pairwise_append.mp h
  obtain ⟨b1, b2⟩ := List.pairwise_cons.mp b
  refine List.pairwise_append.mpr ⟨a, List.pairwise_cons.mpr ⟨b1, b2⟩, fun x hx y hy => ?_⟩
  rcases List.mem_cons.mp hy with rfl | hy
  · exact d x hx c (.head _)
  · exact d x hx y (.tail _ hy)
theorem set_look {rs : List Cell} (h : Asc rs) {j : Nat} {c : Cell} (hc : rs[j]? = some c) (e : Addr) (n : Int) (x : Int) : look (rs.take j ++ ⟨c.ka, e, c.k, n⟩ :: rs.drop (j + 1)) x = if x = c.k then some n else look rs x := by
  have e0 := set_split hc
  have h' := h
  rw [e0] at h'
  obtain ⟨a, b, d⟩ := List.pairwise_append.mp h'
  rw [look_app, look_cons]
  by_cases q : x = c.k
  · subst q
    rw [if_pos rfl, if_pos rfl, look_none (fun y hy => by have := d y hy c (.head _); omega)]
    rfl
  · rw [if_neg (fun z => q z.symm), if_neg q]
    conv => rhs; rw [e0]
    rw [look_app, look_cons, if_neg (fun z => q z.symm)]

section
variable {A : Around} {E : Value → Shared → Prop} {s : Shared} {w : World} {h₀ : Heap} {L na d : Addr} {m : Str → Option Value} {news : List (Addr × Obj)} {g : Obj → List (Addr × Obj)} {rs : List Cell} {ep es : Nat}
theorem subKeyAt_K {value slice : Expr} {c : Cell} {i : Int} {u : Tok} {Q : Value → Shared → Prop} (F : Fr h₀ L s.heap m) (X₀ : (hd.heap_39 w.params).In h₀) (N : News h₀ L s.heap news) (hm : (na, arrO d (vals rs).toArray ep) ∈ news)
    (hc : KeyAt rs i c) (hz : rs.length ≤ 400) (h : Q (.ref c.ka) s) (hs : subscripted slice false (.ref na) (.int i u) = operate [.ref na, .int i u] (getItem (.ref na) (.int i u)) := by with_unfolding_all rfl) :
    wpAny (model PG w) A (subscriptTail value slice (.ref na) (.int i u)) Q E s := by
  have hl := hc.lt
  obtain ⟨j, rfl, hc⟩ := hc
  exact subKey_K F X₀ N hm hc rfl (by omega) h hs
theorem subEntAt_K {value slice : Expr} {c : Cell} {i : Int} {u : Tok} {Q : Value → Shared → Prop} (F : Fr h₀ L s.heap m) (X₀ : (hd.heap_39 w.params).In h₀) (N : News h₀ L s.heap news) (hm : (na, arrO d (vals rs).toArray ep) ∈ news)
    (hc : KeyAt rs i c) (hz : rs.length ≤ 400) (h : Q (.ref c.ea) s) (hs : subscripted slice false (.ref na) (.int (i + 1) u) = operate [.ref na, .int (i + 1) u] (getItem (.ref na) (.int (i + 1) u)) := by with_unfolding_all rfl) :
    wpAny (model PG w) A (subscriptTail value slice (.ref na) (.int (i + 1) u)) Q E s := by
  have hl := hc.lt
  obtain ⟨j, rfl, hc⟩ := hc
  exact subEnt_K F X₀ N hm hc rfl (by omega) h hs
theorem setEnt_K {c : Cell} {i n H : Int} {u : Tok} {e : Addr} {Q : Unit → Shared → Prop} (_he : EntIn H news e n) (F : Fr h₀ L s.heap m) (X₀ : (hd.heap_39 w.params).In h₀) (N : News h₀ L s.heap news) (U : UpdF na (arrO d (vals rs).toArray ep) news g)
    (hc : KeyAt rs i c) (hz : rs.length ≤ 400) (h : ∀ j ep' h', rs[j]? = some c → Fr h₀ L h' m → News h₀ L h' (g (arrO d (vals (rs.take j ++ ⟨c.ka, e, c.k, n⟩ :: rs.drop (j + 1))).toArray ep')) → Q () { s with heap := h' }) :
    wpAny (model PG w) A (setItem (.ref na) (.int (i + 1) u) (.ref e)) Q E s := by
  have hl := hc.lt
  obtain ⟨j, rfl, hc⟩ := hc
  have hs := set_split hc
  refine set_K (l1 := vals (rs.take j) ++ [.ref c.ka]) (x := .ref c.ea) (l2 := vals (rs.drop (j + 1))) F X₀ N U ?_ ?_ ?_ fun ep' h' F' N' => h j ep' h' hc F' ?_
  · conv => lhs; rw [hs]
    simp [vals_app, vals]
  · simp [vals_len]; omega
  · simp [vals_len]; omega
  · simpa [vals_app, vals] using N'
theorem insKey_K {i : Int} {u : Tok} {v : Value} {Q : Value → Shared → Prop} (F : Fr h₀ L s.heap m) (X₀ : (hd.heap_39 w.params).In h₀) (N : News h₀ L s.heap news) (U : UpdF na (arrO d (vals rs).toArray ep) news g)
    (hj : ∃ j : Nat, i = 2 * (j : Int) ∧ j ≤ rs.length) (hz : rs.length ≤ 400) (h : ∀ (j : Nat) ep' h', i = 2 * (j : Int) → (vals (rs.take j)).length = 2 * j → Fr h₀ L h' m → News h₀ L h' (g (arrO d (vals (rs.take j) ++ v :: vals (rs.drop j)).toArray ep')) → UpdF na (arrO d (vals (rs.take j) ++ v :: vals (rs.drop j)).toArray ep') (g (arrO d (vals (rs.take j) ++ v :: vals (rs.drop j)).toArray ep')) g → Q .none { s with heap := h' }) :
    wpAny (model PG w) A (call (.builtin "list.insert") [.ref na, .int i u, v]) Q E s := by
  obtain ⟨j, rfl, hj⟩ := hj
  have hl : (vals (rs.take j)).length = 2 * j := by rw [vals_len, List.length_take]; omega
  refine insert_K (l1 := vals (rs.take j)) (l2 := vals (rs.drop j)) F X₀ N U ?_ ?_ ?_ fun ep' h' F' N' => h j ep' h' rfl hl F' N' (updF_again U _)
  · rw [← vals_app, List.take_append_drop]
  · omega
  · simp [vals_len]; omega
theorem insEnt_K {i : Int} {u : Tok} {v x : Value} {j : Nat} {Q : Value → Shared → Prop} (F : Fr h₀ L s.heap m) (X₀ : (hd.heap_39 w.params).In h₀) (N : News h₀ L s.heap news) (U : UpdF na (arrO d (vals (rs.take j) ++ x :: vals (rs.drop j)).toArray ep) news g)
    (hi : i = 2 * (j : Int)) (hj : (vals (rs.take j)).length = 2 * j) (hz : rs.length ≤ 400) (h : ∀ ep' h', Fr h₀ L h' m → News h₀ L h' (g (arrO d (vals (rs.take j) ++ x :: v :: vals (rs.drop j)).toArray ep')) → Q .none { s with heap := h' }) :
    wpAny (model PG w) A (call (.builtin "list.insert") [.ref na, .int (i + 1) u, v]) Q E s := by
  refine insert_K (l1 := vals (rs.take j) ++ [x]) (l2 := vals (rs.drop j)) F X₀ N U ?_ ?_ ?_ fun ep' h' F' N' => h ep' h' F' ?_
  · simp
  · simp; omega
  · simp [vals_len]; omega
  · simpa using N'
end
end Mine
end
section
open PySem PySem.W PySem.W.X PyProof.Rows
set_option maxRecDepth 100000
set_option maxHeartbeats 80000000
namespace Mine
theorem fill12 : hd.heap_39 = hd.heap_39 ∧ PySem.Challenge.rw_ee5012_01 = PySem.Challenge.rw_ee5012_01 := by
  k_fill
  exact ⟨rfl, rfl⟩
/-- what holds at each turn of the while of nums_insert -/
def InsJ (news : List (Addr × Obj)) (rs : List Cell) (k : Int) (m₀ : Str → Option Value) (n : Nat) (m₁ : Str → Option Value) (news₁ : List (Addr × Obj)) : Prop :=
  news₁ = news ∧ n ≤ rs.length ∧ (∀ c, rs[n]? = some c → k ≤ c.k) ∧ ∃ t, m₁ = fun y => if y = Str.ofString "i" then some (.int (2 * (n : Int)) t) else m₀ y
theorem ins_start {news : List (Addr × Obj)} {rs : List Cell} {k : Int} {kk : Addr} (_hk : NumIn news kk k) (t : Tok) (m₀ : Str → Option Value) : InsJ news rs k m₀ rs.length (fun y => if y = Str.ofString "i" then some (.int (2 * (rs.length : Int)) t) else m₀ y) news :=
  ⟨rfl, Nat.le_refl _, (fun c hc => by simp at hc), t, rfl⟩
theorem ins_step {news : List (Addr × Obj)} {rs : List Cell} {k : Int} {n : Nat} {cj : Cell} {h₀ h : Heap} {L : Addr} {m₀ m₁ : Str → Option Value} {s : Shared} {Q : Flow → Shared → Prop} {t : Tok} {tk : Nat} {x : Option Value} (F : Fr h₀ L h m₁) (N : News h₀ L h news) (h0 : 2 * (n : Int) ≠ 0) (hn : n ≤ rs.length)
    (hc : KeyAt rs (2 * (n : Int) - 2) cj) (hk : k ≤ cj.k) (hm : m₁ = fun y => if y = Str.ofString "i" then some (.int (2 * (n : Int) - 2) t) else (if y = Str.ofString "i" then x else m₀ y)) :
    WhileStep2 h₀ L s (InsJ news rs k m₀) Q n .next { s with heap := h, toks := tk } := by
  refine ⟨h, tk, m₁, news, n - 1, rfl, F, N, by omega, rfl, by omega, fun c q => ?_, t, ?_⟩
  · obtain ⟨j, e, hj⟩ := hc
    have : j = n - 1 := by omega
    subst this
    rw [hj] at q
    cases Option.some.inj q
    exact hk
  · rw [hm]
    funext y
    have e : 2 * ((n - 1 : Nat) : Int) = 2 * (n : Int) - 2 := by omega
    rw [e]
    by_cases q : y = Str.ofString "i"
    · rw [if_pos q, if_pos q]
    · rw [if_neg q, if_neg q, if_neg q]
/-- what is known at a turn -/
theorem ins_turn {H : Int} {news : List (Addr × Obj)} {rs : List Cell} {n : Nat} (hr : RowIn H news rs) (hn : n ≤ rs.length) :
    (2 * (n : Int) = 0 ∨ (2 * (n : Int) ≠ 0 ∧ ∃ c, KeyAt rs (2 * (n : Int) - 2) c ∧ NumIn news c.ka c.k)) ∧ ((2 * (n : Int) = 2 * (rs.length : Int) ∧ rs[n]? = none) ∨ (2 * (n : Int) < 2 * (rs.length : Int) ∧ ∃ c, rs[n]? = some c ∧ KeyAt rs (2 * (n : Int)) c ∧ NumIn news c.ka c.k)) := by
  constructor
  · rcases n with _ | j
    · left; rfl
    · right
      have hj : j < rs.length := by omega
      have hc : rs[j]? = some rs[j] := by simp [hj]
      exact ⟨by omega, rs[j], ⟨j, by omega, hc⟩, (hr.at hc).1⟩
  · rcases Nat.lt_or_ge n rs.length with h | h
    · right
      have hc : rs[n]? = some rs[n] := by simp [h]
      exact ⟨by omega, rs[n], hc, ⟨n, rfl, hc⟩, (hr.at hc).1⟩
    · left
      exact ⟨by omega, by simp [h]⟩
section
variable {h₀ h' : Heap} {L na d kk ee : Addr} {news : List (Addr × Obj)} {g : Obj → List (Addr × Obj)} {rs : List Cell} {ep ep' : Nat} {H k n : Int}
theorem stay_arr {vs : Array Value} (U : UpdF na (arrO d vs ep) news g) (o' : Obj) : Stay news (g o') := stay_updF U ⟨(fun z => nomatch z), (fun z => nomatch z), (fun z => nomatch z)⟩ o'
theorem ins_close {P : Prop} (U : UpdF na (arrO d (vals rs).toArray ep) news g) (hr : RowIn H news rs) (ha : Asc rs) (hk : NumIn news kk k) (he : EntIn H news ee n) {nn j : Nat} (hn : nn ≤ rs.length) (hj : 2 * (nn : Int) = 2 * (j : Int))
    (kN : News h₀ L h' (g (arrO d (vals (rs.take j) ++ .ref kk :: .ref ee :: vals (rs.drop j)).toArray ep')))
    (hA : 2 * (nn : Int) = 0 ∨ ∃ c, KeyAt rs (2 * (nn : Int) - 2) c ∧ ¬ k ≤ c.k) (hB : rs[nn]? = none ∨ ∃ c, rs[nn]? = some c ∧ k ≤ c.k ∧ ¬ k = c.k)
    (h : ∀ rs' ep', News h₀ L h' (g (arrO d (vals rs').toArray ep')) → RowIn H (g (arrO d (vals rs').toArray ep')) rs' → Asc rs' → rs'.length ≤ rs.length + 1 → (∀ x, look rs' x = if x = k then some n else look rs x) → P) : P := by
  have ej : nn = j := by omega
  subst ej
  have h1 : ∀ c ∈ rs.take nn, c.k < k := by
    refine asc_below ha ?_
    rcases hA with hA | ⟨c, ⟨i, e, hi⟩, hA⟩
    · left; omega
    · right; exact ⟨i, c, by omega, hi, by omega⟩
  have h2 : ∀ c ∈ rs.drop nn, k < c.k := by
    refine asc_above ha fun c hc => ?_
    rcases hB with hB | ⟨c', hB, h3, h4⟩
    · rw [hB] at hc; cases hc
    · rw [hB] at hc; cases Option.some.inj hc; omega
  have ev : vals (rs.take nn) ++ .ref kk :: .ref ee :: vals (rs.drop nn) = vals (rs.take nn ++ ⟨kk, ee, k, n⟩ :: rs.drop nn) := by simp [vals_app, vals]
  rw [ev] at kN
  have st := stay_arr U (arrO d (vals (rs.take nn ++ ⟨kk, ee, k, n⟩ :: rs.drop nn)).toArray ep')
  refine h _ _ kN ?_ (ins_asc ha h1 h2) (by simp; omega) (fun x => ins_look h1 h2 x)
  intro c hc
  rcases List.mem_append.mp hc with hc | hc
  · exact hr.stay st c (List.mem_of_mem_take hc)
  · rcases List.mem_cons.mp hc with rfl | hc
    · exact ⟨hk.stay st, he.stay st⟩
    · exact hr.stay st c (List.mem_of_mem_drop hc)
theorem set_close {P : Prop} {c : Cell} (U : UpdF na (arrO d (vals rs).toArray ep) news g) (hr : RowIn H news rs) (ha : Asc rs) (he : EntIn H news ee n) {j : Nat} (hc : rs[j]? = some c) (hk : k = c.k)
    (kN : News h₀ L h' (g (arrO d (vals (rs.take j ++ ⟨c.ka, ee, c.k, n⟩ :: rs.drop (j + 1))).toArray ep')))
    (h : ∀ rs' ep', News h₀ L h' (g (arrO d (vals rs').toArray ep')) → RowIn H (g (arrO d (vals rs').toArray ep')) rs' → Asc rs' → rs'.length ≤ rs.length + 1 → (∀ x, look rs' x = if x = k then some n else look rs x) → P) : P := by
  subst hk
  have st := stay_arr U (arrO d (vals (rs.take j ++ ⟨c.ka, ee, c.k, n⟩ :: rs.drop (j + 1))).toArray ep')
  refine h _ _ kN ?_ (set_asc ha hc ee n) ?_ (fun x => set_look ha hc ee n x)
  · intro x hx
    rcases List.mem_append.mp hx with hx | hx
    · exact hr.stay st x (List.mem_of_mem_take hx)
    · rcases List.mem_cons.mp hx with rfl | hx
      · exact ⟨(hr.stay st c (List.mem_of_getElem? hc)).1, he.stay st⟩
      · exact hr.stay st x (List.mem_of_mem_drop hx)
  · have := congrArg List.length (set_split hc)
    simp only [List.length_append, List.length_cons] at this ⊢
    omega
end
section
variable {A A₀ : Around} {E : Value → Shared → Prop} {s : Shared} {w : World} {base h₀ : Heap} {outer : List Env} {env : Env} {L : Addr} {m : Str → Option Value} {news : List (Addr × Obj)}
  {p : Program} {loose : List Str} {mean : ExcName → Option Value} {mg mb : Str → Option Value}
local macro_rules | `(tactic| kc_close) => `(tactic| (apply_assumption <;> assumption))
local macro_rules | `(tactic| k_mem) => `(tactic| exact updF_mem (by assumption))
local macro_rules | `(tactic| walk_at "call builtin:len") => `(tactic| (k_here; k_dflt (refine' rowLen_K (by assumption) (by assumption) (by assumption) (by k_mem) (by assumption) ?_); k_sweep))
local macro_rules | `(tactic| walk_at "execs cons") => `(tactic| (exfalso; exact absurd (two_fmod _) (by assumption)))
local macro_rules | `(tactic| walk_at "WhileStep2") => `(tactic| (k_dflt (refine' ins_step (by assumption) (by assumption) (by assumption) (by assumption) (by assumption) (by assumption) (by rfl))))
local macro_rules | `(tactic| walk_at "getMethod") => `(tactic| (k_here; k_dflt (refine' meth_insert_K (by assumption) (by assumption) (by assumption) (by k_mem) (by first | assumption | (apply_assumption)) ?_); k_sweep))
local macro_rules | `(tactic| walk_at "call builtin:list.insert") => `(tactic| (k_here; k_dflt (first | (refine' insEnt_K (by assumption) (by assumption) (by assumption) (by assumption) (by assumption) (by assumption) (by assumption) ?_; intro ep' h' F' N') | (refine' insKey_K (by assumption) (by assumption) (by assumption) (by assumption) ⟨_, rfl, by assumption⟩ (by assumption) ?_; intro j ep' h' hj hl F' N' U')); k_sweep))
local macro_rules | `(tactic| walk_at "setItem ref int") => `(tactic| (k_here; k_dflt (refine' setEnt_K (by assumption) (by assumption) (by assumption) (by assumption) (by assumption) (by assumption) (by assumption) ?_; intro j ep' h' hj F' N'); k_sweep))
local macro_rules | `(tactic| walk_at "subscriptTail") => `(tactic| (k_here; k_dflt (refine' subKeyAt_K (by assumption) (by assumption) (by assumption) (by k_mem) (by assumption) (by assumption) ?_); k_sweep))
local macro_rules | `(tactic| walk_at "compareOp LtE ref") => `(tactic| (k_here; k_dflt (refine' leNN_K (Room.ok (n := 0) (Room.deeper (Room.less (by assumption) (by decide)))) (by assumption) (by assumption) (by assumption) (by assumption) (by assumption) ?_); intro tk'; k_sweep))
local macro_rules | `(tactic| walk_at "compareOp Eq ref") => `(tactic| (k_here; k_dflt (refine' eqNN_K (Room.ok (n := 0) (Room.deeper (Room.less (by assumption) (by decide)))) (by assumption) (by assumption) (by assumption) (by assumption) (by assumption) ?_); intro tk'; k_sweep))
local macro_rules | `(tactic| walk_at "exec While") => `(tactic| (k_here; (rename Fr _ _ _ _ => lF'); (rename News _ _ _ _ => lN'); (rename RowIn _ _ _ => lR'); (rename NumIn _ _ _ => lK'); k_dflt (refine' While_inv2 (InsJ _ _ _ _) lF' lN' (ins_start lK' _ _) ?_ ?hE; (case hE => first | passes_own | with_unfolding_all passes_own)); clear lF' lN'; (intro n m₁ news₁ h₁ tk₁ F₁ N₁ hJ; k_dflt (obtain ⟨e1, hn, hc, t, e2⟩ := hJ); subst e1; subst e2; (rcases ins_turn lR' hn with ⟨(h0 | ⟨h0, cj, h1, h2⟩), (⟨h3, h4⟩ | ⟨h3, c, h4, h5, h6⟩)⟩) <;> (try (have h7 := hc _ h4)) <;> (clear hc))))
theorem fn_insert {Q : Value → Shared → Prop} (R : Room 14 A) (B : Below A₀ base outer h₀) (F : Fr h₀ L s.heap m) (X₀ : (hd.heap_39 w.params).In h₀) (N : News h₀ L s.heap news) (T : Top p loose mean mg mb h₀) (hA : A.frames = some (env :: outer)) (hf : env.frame = some L) (hke : env.scope.kind = .function)
    {na d kk ee : Addr} {ep es : Nat} {rs : List Cell} {g : Obj → List (Addr × Obj)} {k n : Int} (U : UpdF na (arrO d (vals rs).toArray ep) news g) (hdd : (d, W.dictOf [] es) ∈ news) (hk : NumIn news kk k) (he : EntIn (entHash w.params) news ee n)
    (hr : RowIn (entHash w.params) news rs) (ha : Asc rs) (hz : rs.length ≤ 400)
    (h : ∀ rs' ep' h' tk, Fr h₀ L h' m → News h₀ L h' (g (arrO d (vals rs').toArray ep')) → RowIn (entHash w.params) (g (arrO d (vals rs').toArray ep')) rs' → Asc rs' → rs'.length ≤ rs.length + 1 →
      (∀ x, look rs' x = if x = k then some n else look rs x) → Q .none { s with heap := h', toks := tk }) :
    wpAny (model PG w) A (call (.ref 45) [.ref kk, .ref ee, .ref na] []) Q E s := by
  have hdd' : ∀ o', (d, W.dictOf [] es) ∈ g o' := fun o' => updF_stays U o' hdd (fun z => by
    have h1 := (N _ hdd).1
    have h2 := (N _ (updF_mem U)).1
    simp only at z h1 h2
    rw [z, h2] at h1
    cases h1)
  refine wpAny_call ?_
  refine' code_def B F X₀ N T hA hf hke ?k6 ?k7 ?k8 ?k9 ?kB ?_ ?c2 ?c3 ?c4 ?c5
  case k6 => k_is
  case k7 => k_is
  case k8 => have := R.dp; show A.depth < 1000; omega
  case k9 => exact BindsTo.of_eq rfl
  case c5 => decide
  case kB => exact locs rfl
  case c2 => exact rfl
  case c3 => exact rfl
  case c4 => exact rfl
  intro g' L' h' FG' F' N' B' X' T'
  k_steps
  all_goals first
    | (exfalso; omega)
    | exact set_close (by assumption) (by assumption) (by assumption) (by assumption) (by assumption) (by assumption) (by assumption) (fun rs' ep' => h rs' ep' _ _ (by assumption))
    | exact ins_close (by assumption) (by assumption) (by assumption) (by assumption) (by assumption) (by assumption) (by assumption) (by assumption) (by first | exact .inl (by assumption) | exact .inr ⟨_, by assumption, by assumption⟩) (by first | exact .inl (by assumption) | exact .inr ⟨_, by assumption, by assumption, by assumption⟩) (fun rs' ep' => h rs' ep' _ _ (by assumption))
end
end Mine
end
section
open PySem PySem.W PySem.W.X PyProof.Rows
set_option maxRecDepth 100000
set_option maxHeartbeats 80000000
namespace Mine
theorem small12 {k : Int} (h0 : 0 ≤ k) (h1 : k < 12) : k = 0 ∨ k = 1 ∨ k = 2 ∨ k = 3 ∨ k = 4 ∨ k = 5 ∨ k = 6 ∨ k = 7 ∨ k = 8 ∨ k = 9 ∨ k = 10 ∨ k = 11 := by omega
theorem smallRepr {k : Int} (h0 : 0 ≤ k) (h1 : k < 12) : (Str.ofString (toString k)).length ≤ 2 := by
  rcases small12 h0 h1 with rfl | rfl | rfl | rfl | rfl | rfl | rfl | rfl | rfl | rfl | rfl | rfl <;> decide +kernel
theorem smallLog {k : Int} (h0 : 0 ≤ k) (h1 : k < 12) : k.natAbs.log2 < 1920 := by
  rcases small12 h0 h1 with rfl | rfl | rfl | rfl | rfl | rfl | rfl | rfl | rfl | rfl | rfl | rfl <;> decide
theorem smallMsg {k : Int} (h0 : 0 ≤ k) (h1 : k < 12) : (Str.ofString (toString k) ++ (Str.ofString " is not in list")).length ≤ sizeLine := by
  rcases small12 h0 h1 with rfl | rfl | rfl | rfl | rfl | rfl | rfl | rfl | rfl | rfl | rfl | rfl <;> decide +kernel
section
variable {w : World} {s : Shared} {E : Value → Shared → Prop} {A : Around} {a b d1 d2 : Addr} {k j : Int} {t u : Tok}
theorem call_repr {Q : Value → Shared → Prop} (X : (hd.heap_39 w.params).In s.heap) (ha : s.heap.get? a = some (numO d1 k t)) (h0 : 0 ≤ k) (h1 : k < 12) (h : ∀ t tk, Q (.str (Str.ofString (toString k)) t) { s with toks := tk }) :
    wpAny (model PG w) A (call (.builtin "int.__repr__") [.ref a]) Q E s := by
  refine call_own (by decide +kernel) PySem.F.entry_int_repr (owner := "int") (n := "__repr__") (.inl (by decide +kernel)) (by decide +kernel) (own_inst X ha rfl (by kernel_rfl)) (PySem.F.args_int_repr_1 _) ?_
  have hl := smallLog h0 h1
  have hs : (Str.ofString (toString k)).length ≤ sizeLine := by have := smallRepr h0 h1; rw [sizeLine_eq]; omega
  obtain ⟨h0, g, dr, tk, os⟩ := s
  wp_walk using (wpAny_loadPart' ha)
  exact h _ _
theorem repr_num {Q : Str → Shared → Prop} (hA : AOk A) (X : (hd.heap_39 w.params).In s.heap) (ha : s.heap.get? a = some (numO d1 k t)) (h0 : 0 ≤ k) (h1 : k < 12) (h : ∀ tk, Q (Str.ofString (toString k)) { s with toks := tk }) :
    wpAny (model PG w) A (pyRepr (.ref a)) Q E s := by
  unfold pyRepr pyReprObj
  refine wpAny_bind (wpAny_bind (wpAny_cRoomFor hA.room ?_))
  refine wpAny_bind ((own_special X ha rfl (r := some (.builtin "int.__repr__")) (by kernel_rfl)).here ?_)
  rw [if_neg (by decide)]
  refine wpAny_bind (ifBound_own X ha rfl (i := "int.__repr__") (by kernel_rfl) (PySem.F.slot_int_repr.bind _) (call_repr X ha h0 h1 fun t' tk => ?_))
  show wpAny _ _ (isInstance (.str _ _) (.type "str") >>= _) _ _ _
  have hi : Looks (model PG w) ({ s with toks := tk } : Shared).heap (isInstance (.str (Str.ofString (toString k)) t') (.type "str")) true := Looks.of_pure (by with_unfolding_all rfl)
  refine wpAny_bind (hi.here ?_)
  rw [if_pos rfl]
  refine wpAny_pure ?_
  show wpAny _ _ (pure (Str.ofString (toString k))) _ _ _
  exact wpAny_pure (h tk)

theorem raise_made {α : Type} {M : Model} {cls : String} {msg : Str} {Q : α → Shared → Prop} (hp : PlainExc cls) (hh : A.handled = none) (hsz : msg.length ≤ sizeLine)
    (h : ∀ h' tk e m, Heap.MadeExcOf s.heap h' e (.type cls) [m] → E (.ref e) { s with heap := h', toks := tk }) :
    wpAny M A (Builtin.List.listRaiseStr cls msg : Sem α) Q E s := by
  unfold Builtin.List.listRaiseStr
  refine wpAny_bind (wpAny_mkStr (wpAny_bind ?_) hsz)
  unfold newExc newTuple
  refine wpAny_bind (wpAny_newObj_type ?_)
  refine wpAny_bind (m := firstArgMember _ _) (wpAny_of_eq (a := Value.none) (by simp only [firstArgMember, hp.first]; rfl) ?_)
  rw [hp.own]
  refine wpAny_newObj_type ?_
  unfold raiseNew
  refine wpAny_bind (wpAny_handled ?_)
  rw [hh]
  first
    | refine wpAny_throw ?_
    | refine wpAny_bind (wpAny_pure (wpAny_throw ?_))
  refine h _ _ _ _ ⟨fun b o hb => Heap.get?_push_of_some _ (Heap.get?_push_of_some _ hb), Heap.get?_none_of_le (by simp), s.heap.objs.size, Heap.get?_push_size _ rfl, Heap.get?_none_of_le (by simp), Heap.get?_push_of_some _ (Heap.get?_push_size _ rfl)⟩
end
section
variable {w : World} {s : Shared} {A : Around} {na d kk dk : Addr} {rs : List Cell} {ep : Nat} {k : Int} {t : Tok} {R : Result → Shared → Prop}
structure RowAt (h : Heap) (kk : Addr) (rs : List Cell) : Prop where
  num : ∀ c ∈ rs, ∃ d t, h.get? c.ka = some (numO d c.k t)
  ent : ∀ c ∈ rs, ∃ d es n, h.get? c.ea = some ⟨.ref 324, some d, .dict es n, #[]⟩
  off : ∀ c ∈ rs, c.ka ≠ kk
theorem ent_off {h : Heap} {e d1 dk kk : Addr} {es : Array DictEntry} {n : Nat} {k : Int} {t : Tok} (he : h.get? e = some ⟨.ref 324, some d1, .dict es n, #[]⟩) (hk : h.get? kk = some (numO dk k t)) : e ≠ kk := by
  rintro rfl
  rw [he] at hk
  cases hk
theorem index_loop (hA : AOk A.in1) (X : (hd.heap_39 w.params).In s.heap) (ha : s.heap.get? na = some (arrO d (vals rs).toArray ep)) (hk : s.heap.get? kk = some (numO dk k t)) (hr : RowAt s.heap kk rs) (hz : rs.length ≤ 400) (h0 : 0 ≤ k) (h1 : k < 12)
    (hf : ∀ pre c post u tk, rs = pre ++ c :: post → c.k = k → (∀ x ∈ pre, x.k ≠ k) → R (.ok (.ret (.int (2 * (pre.length : Int)) u))) { s with toks := tk })
    (hm : (∀ x ∈ rs, x.k ≠ k) → ∀ h' tk e m, Heap.MadeExcOf s.heap h' e (.type "ValueError") [m] → R (.error (.ref e)) { s with heap := h', toks := tk }) :
    ∀ (upto : Int) (_hup : upto = 2 ^ 63 - 1) (l pre : List Cell) (tk : Nat) (i : Int), i = 2 * (pre.length : Int) → rs = pre ++ l → (∀ x ∈ pre, x.k ≠ k) → codeAny (model PG w) A (.builtin "list.index.loop" ⟨[.ref na, .ref kk, rawInt i, rawInt upto], []⟩) R { s with toks := tk } := by
  intro upto hup l
  induction l with
  | nil =>
    intro pre tk i hi0 hp hn
    rw [List.append_nil] at hp
    refine codeAny_builtin PySem.MeetsSeq.entry_index_loop ?_
    rw [Around.under_plainId PySem.MeetsSeq.plain_index_loop _]
    obtain ⟨hp0, g, dr, tk0, os⟩ := s
    wp_walk using (wpAny_loadPart' ha)
    have hi : (if i < upto then (vals rs).toArray[i.toNat]? else none) = none := by
      split
      · rw [List.getElem?_toArray]
        apply List.getElem?_eq_none
        rw [vals_len, hp]; omega
      · rfl
    rw [hi]
    refine wpAny_bind (wpAny_rule ?_)
    refine wpAny_bind (repr_num (s := ⟨hp0, g, dr, tk, os⟩) hA X hk h0 h1 fun tk' => ?_)
    have hsm := smallMsg h0 h1
    revert hsm
    generalize (Str.ofString (toString k) ++ (Str.ofString " is not in list")) = msg
    intro hsm
    refine raise_made (s := ⟨hp0, g, dr, tk', os⟩) plainExc_ValueError hA.hd hsm fun h' tk2 e m hx => hm (by rw [hp]; exact hn) h' tk2 e m hx
  | cons c r ih =>
    intro pre tk i hi0 hp hn
    have hcm : c ∈ rs := by rw [hp]; simp
    have hl : pre.length < rs.length := by rw [hp]; simp
    have hc : rs[pre.length]? = some c := by rw [hp]; simp
    obtain ⟨dc, tc, hnum⟩ := hr.num c hcm
    obtain ⟨de, es, n, hent⟩ := hr.ent c hcm
    have hoff := hr.off c hcm
    have hoff2 := ent_off hent hk
    refine codeAny_builtin PySem.MeetsSeq.entry_index_loop ?_
    rw [Around.under_plainId PySem.MeetsSeq.plain_index_loop _]
    have key : ∀ tk, wpAny (model PG w) A.in1 (eqBool (.ref c.ka) (.ref kk)) (fun b s' => b = decide (c.k = k) ∧ ∃ tk, s' = { s with toks := tk }) (fun _ _ => False) { s with toks := tk } := fun tk =>
      eqB_nn (s := { s with toks := tk }) hA X hnum hk hoff fun tk' => ⟨rfl, tk', rfl⟩
    have ent : ∀ tk, wpAny (model PG w) A.in1 (eqBool (.ref c.ea) (.ref kk)) (fun b s' => b = false ∧ ∃ tk, s' = { s with toks := tk }) (fun _ _ => False) { s with toks := tk } := fun tk =>
      eqB_dn (s := { s with toks := tk }) hA X hent hk hoff2 fun tk' => ⟨rfl, tk', rfl⟩
    obtain ⟨hp0, g, dr, tk0, os⟩ := s
    wp_walk using (wpAny_loadPart' ha)
    have hi : (if i < upto then (vals rs).toArray[i.toNat]? else none) = some (.ref c.ka) := by
      rw [if_pos (by omega), List.getElem?_toArray, show i.toNat = 2 * pre.length by omega]
      exact vals_key hc
    rw [hi]
    refine wpAny_bind (wpAny_mono (key tk) (fun b s' q => ?_) fun _ _ q => q.elim)
    obtain ⟨rfl, tk1, rfl⟩ := q
    by_cases hck : c.k = k
    · rw [decide_eq_true hck]
      wp_walk
      rw [hi0]
      exact hf pre c r _ _ hp hck hn
    · rw [decide_eq_false hck]
      wp_walk
      refine ⟨plainId_quiet PySem.MeetsSeq.plain_index_loop _, codeAny_builtin PySem.MeetsSeq.entry_index_loop ?_⟩
      rw [Around.under_plainId PySem.MeetsSeq.plain_index_loop _]
      wp_walk using (wpAny_loadPart' ha)
      have hi : (if i + 1 < upto then (vals rs).toArray[(i + 1).toNat]? else none) = some (.ref c.ea) := by
        rw [if_pos (by omega), List.getElem?_toArray, show (i + 1).toNat = 2 * pre.length + 1 by omega]
        exact vals_ent hc
      rw [hi]
      refine wpAny_bind (wpAny_mono (ent tk1) (fun b s' q => ?_) fun _ _ q => q.elim)
      obtain ⟨rfl, tk2, rfl⟩ := q
      wp_walk
      have e : i + 1 + 1 = 2 * ((pre ++ [c]).length : Int) := by simp; omega
      refine ⟨plainId_quiet PySem.MeetsSeq.plain_index_loop _, ih (pre ++ [c]) tk2 _ e (by rw [hp]; simp) fun x hx => ?_⟩
      rcases List.mem_append.mp hx with hx | hx
      · exact hn x hx
      · rw [List.mem_singleton.mp hx]; exact hck
theorem arr_index {Q : Value → Shared → Prop} {E : Value → Shared → Prop} (hA : AOk A.in1) (X : (hd.heap_39 w.params).In s.heap) (ha : s.heap.get? na = some (arrO d (vals rs).toArray ep)) (hk : s.heap.get? kk = some (numO dk k t)) (hr : RowAt s.heap kk rs) (hz : rs.length ≤ 400) (h0 : 0 ≤ k) (h1 : k < 12)
    (hf : ∀ pre c post u tk, rs = pre ++ c :: post → c.k = k → (∀ x ∈ pre, x.k ≠ k) → Q (.int (2 * (pre.length : Int)) u) { s with toks := tk })
    (hm : (∀ x ∈ rs, x.k ≠ k) → ∀ h' tk e m, Heap.MadeExcOf s.heap h' e (.type "ValueError") [m] → E (.ref e) { s with heap := h', toks := tk }) :
    wpAny (model PG w) A (call (.builtin "list.index") [.ref na, .ref kk]) Q E s := by
  refine call_own (by decide +kernel) PySem.F.entry_list_index (owner := "list") (n := "index") (.inr (by decide +kernel)) (by decide +kernel) (arr_is X ha) (PySem.F.args_list_index_2 _ _) ?_
  have lp := index_loop (R := wants Q E) hA X ha hk hr hz h0 h1 (fun pre c post u tk e1 e2 e3 => hf pre c post u tk e1 e2 e3) (fun e1 h' tk e m hx => hm e1 h' tk e m hx) (2 ^ 63 - 1) rfl rs [] s.toks 0 rfl rfl (fun _ hx => nomatch hx)
  obtain ⟨hp0, g, dr, tk0, os⟩ := s
  wp_walk using (wpAny_loadPart' ha)
  exact ⟨plainId_quiet PySem.MeetsSeq.plain_index_loop _, lp⟩
end
end Mine
end
section
open PySem PySem.W PySem.W.X PyProof.Rows
set_option maxRecDepth 100000
set_option maxHeartbeats 2000000
namespace Mine
local macro_rules | `(tactic| walk_at "never S14 0") => `(tactic| fail "never")
local macro_rules | `(tactic| walk_at "never S14 1") => `(tactic| fail "never")
local macro_rules | `(tactic| walk_at "never S14 2") => `(tactic| fail "never")
local macro_rules | `(tactic| walk_at "never S14 3") => `(tactic| fail "never")
local macro_rules | `(tactic| walk_at "never S14 4") => `(tactic| fail "never")
local macro_rules | `(tactic| walk_at "never S14 5") => `(tactic| fail "never")
local macro_rules | `(tactic| walk_at "never S14 6") => `(tactic| fail "never")
local macro_rules | `(tactic| walk_at "never S14 7") => `(tactic| fail "never")
local macro_rules | `(tactic| walk_at "never S14 8") => `(tactic| fail "never")
local macro_rules | `(tactic| walk_at "never S14 9") => `(tactic| fail "never")
local macro_rules | `(tactic| walk_at "never S14 10") => `(tactic| fail "never")
local macro_rules | `(tactic| walk_at "never S14 11") => `(tactic| fail "never")
local macro_rules | `(tactic| walk_at "never S14 12") => `(tactic| fail "never")
local macro_rules | `(tactic| walk_at "never S14 13") => `(tactic| fail "never")
local macro_rules | `(tactic| walk_at "never S14 14") => `(tactic| fail "never")
local macro_rules | `(tactic| walk_at "never S14 15") => `(tactic| fail "never")
local macro_rules | `(tactic| walk_at "never S14 16") => `(tactic| fail "never")
local macro_rules | `(tactic| walk_at "never S14 17") => `(tactic| fail "never")
local macro_rules | `(tactic| walk_at "never S14 18") => `(tactic| fail "never")
local macro_rules | `(tactic| walk_at "never S14 19") => `(tactic| fail "never")
local macro_rules | `(tactic| walk_at "never S14 20") => `(tactic| fail "never")
local macro_rules | `(tactic| walk_at "never S14 21") => `(tactic| fail "never")
local macro_rules | `(tactic| walk_at "never S14 22") => `(tactic| fail "never")
local macro_rules | `(tactic| walk_at "never S14 23") => `(tactic| fail "never")
local macro_rules | `(tactic| walk_at "never S14 24") => `(tactic| fail "never")
local macro_rules | `(tactic| walk_at "never S14 25") => `(tactic| fail "never")
local macro_rules | `(tactic| walk_at "never S14 26") => `(tactic| fail "never")
local macro_rules | `(tactic| walk_at "never S14 27") => `(tactic| fail "never")
local macro_rules | `(tactic| walk_at "never S14 28") => `(tactic| fail "never")
local macro_rules | `(tactic| walk_at "never S14 29") => `(tactic| fail "never")
theorem fill14 : hd.heap_39 = hd.heap_39 ∧ PySem.Challenge.rw_ee5012_01 = PySem.Challenge.rw_ee5012_01 := by
  k_fill
  exact ⟨rfl, rfl⟩
theorem split_same {pre pre' : List Cell} {c c' : Cell} {post post' : List Cell} (h : Asc (pre ++ c :: post)) (e : pre ++ c :: post = pre' ++ c' :: post') (hk : c.k = c'.k) : pre'.length = pre.length := by
  have h1 : (pre ++ c :: post)[pre.length]? = some c := by simp
  have h2 : (pre ++ c :: post)[pre'.length]? = some c' := by rw [e]; simp
  rcases Nat.lt_trichotomy pre.length pre'.length with q | q | q
  · obtain ⟨l1, e1⟩ := List.getElem?_eq_some_iff.mp h1
    obtain ⟨l2, e2⟩ := List.getElem?_eq_some_iff.mp h2
    have := List.pairwise_iff_getElem.mp h _ _ l1 l2 q
    rw [e1, e2] at this
    omega
  · exact q.symm
  · obtain ⟨l1, e1⟩ := List.getElem?_eq_some_iff.mp h1
    obtain ⟨l2, e2⟩ := List.getElem?_eq_some_iff.mp h2
    have := List.pairwise_iff_getElem.mp h _ _ l2 l1 q
    rw [e1, e2] at this
    omega
section
variable {A : Around} {E : Value → Shared → Prop} {s : Shared} {w : World} {h₀ : Heap} {L na d kk : Addr} {m : Str → Option Value} {news : List (Addr × Obj)} {rs : List Cell} {ep : Nat} {k : Int} {Q : Value → Shared → Prop}
/-- the key is none of the row's own objects -/
def KeyOff (rs : List Cell) (kk : Addr) : Prop := ∀ c ∈ rs, c.ka ≠ kk
theorem rowAt_of {H : Int} (N : News h₀ L s.heap news) (hr : RowIn H news rs) (ho : KeyOff rs kk) : RowAt s.heap kk rs := by
  refine ⟨fun c hc => ?_, fun c hc => ?_, ho⟩
  · obtain ⟨d, t, h⟩ := (hr c hc).1
    exact ⟨d, t, (N _ h).1⟩
  · obtain ⟨d, na, va, d1, t1, d2, t2, h, _⟩ := (hr c hc).2
    exact ⟨d, _, _, (N _ h).1⟩
theorem subKey2_K {value slice : Expr} {c : Cell} {i i' : Int} {u : Tok} (F : Fr h₀ L s.heap m) (X₀ : (hd.heap_39 w.params).In h₀) (N : News h₀ L s.heap news) (hm : (na, arrO d (vals rs).toArray ep) ∈ news)
    (hc : KeyAt rs i c) (he : i' = i) (hz : rs.length ≤ 400) (h : Q (.ref c.ka) s) (hs : subscripted slice false (.ref na) (.int i' u) = operate [.ref na, .int i' u] (getItem (.ref na) (.int i' u)) := by with_unfolding_all rfl) :
    wpAny (model PG w) A (subscriptTail value slice (.ref na) (.int i' u)) Q E s := by
  subst he
  exact subKeyAt_K F X₀ N hm hc hz h hs
theorem subEnt2_K {value slice : Expr} {c : Cell} {i i' : Int} {u : Tok} (F : Fr h₀ L s.heap m) (X₀ : (hd.heap_39 w.params).In h₀) (N : News h₀ L s.heap news) (hm : (na, arrO d (vals rs).toArray ep) ∈ news)
    (hc : KeyAt rs i c) (he : i' = i + 1) (hz : rs.length ≤ 400) (h : Q (.ref c.ea) s) (hs : subscripted slice false (.ref na) (.int i' u) = operate [.ref na, .int i' u] (getItem (.ref na) (.int i' u)) := by with_unfolding_all rfl) :
    wpAny (model PG w) A (subscriptTail value slice (.ref na) (.int i' u)) Q E s := by
  subst he
  exact subEntAt_K F X₀ N hm hc hz h hs
theorem indexHit_K {H : Int} {pre post : List Cell} {c : Cell} (R : Room 1 A) (F : Fr h₀ L s.heap m) (X₀ : (hd.heap_39 w.params).In h₀) (N : News h₀ L s.heap news) (hm : (na, arrO d (vals rs).toArray ep) ∈ news) (hk : NumIn news kk k) (hr : RowIn H news rs) (ho : KeyOff rs kk) (hz : rs.length ≤ 400) (h0 : 0 ≤ k ∧ k < 12)
    (hs : rs = pre ++ c :: post) (hc : c.k = k) (ha : Asc rs) (h : ∀ u tk, Q (.int (2 * (pre.length : Int)) u) { s with toks := tk }) :
    wpAny (model PG w) A (call (.builtin "list.index") [.ref na, .ref kk]) Q E s := by
  obtain ⟨dk, tk, hk⟩ := hk
  refine arr_index (R.in1.ok) (X₀.keeps F.keep) (N _ hm).1 (N _ hk).1 (rowAt_of N hr ho) hz h0.1 h0.2 (fun pre' c' post' u tk e1 e2 _ => ?_) (fun hn => ?_)
  · have := split_same (hs ▸ ha) (hs.symm.trans e1) (hc.trans e2.symm)
    rw [this]
    exact h u tk
  · exact absurd hc (hn c (by rw [hs]; simp))
theorem indexMiss_K {H : Int} (R : Room 1 A) (F : Fr h₀ L s.heap m) (X₀ : (hd.heap_39 w.params).In h₀) (N : News h₀ L s.heap news) (hm : (na, arrO d (vals rs).toArray ep) ∈ news) (hk : NumIn news kk k) (hr : RowIn H news rs) (ho : KeyOff rs kk) (hz : rs.length ≤ 400) (h0 : 0 ≤ k ∧ k < 12)
    (hn : ∀ x ∈ rs, x.k ≠ k) (h : ∀ h' tk e m, Heap.MadeExcOf s.heap h' e (.type "ValueError") [m] → E (.ref e) { s with heap := h', toks := tk }) :
    wpAny (model PG w) A (call (.builtin "list.index") [.ref na, .ref kk]) Q E s := by
  obtain ⟨dk, tk, hk⟩ := hk
  exact arr_index (R.in1.ok) (X₀.keeps F.keep) (N _ hm).1 (N _ hk).1 (rowAt_of N hr ho) hz h0.1 h0.2 (fun pre' c' post' u tk e1 e2 _ => absurd e2 (hn c' (by rw [e1]; simp))) (fun _ => h)
end
section
variable {A A₀ : Around} {E : Value → Shared → Prop} {s : Shared} {w : World} {base h₀ : Heap} {outer : List Env} {env : Env} {L : Addr} {m : Str → Option Value} {news : List (Addr × Obj)}
  {p : Program} {loose : List Str} {mean : ExcName → Option Value} {mg mb : Str → Option Value}
local macro_rules | `(tactic| kc_close) => `(tactic| (apply_assumption <;> assumption))
local macro_rules | `(tactic| walk_at "call builtin:len") => `(tactic| (k_here; k_dflt (refine' rowLen_K (by assumption) (by assumption) (by assumption) (by assumption) (by assumption) ?_); k_sweep))
local macro_rules | `(tactic| walk_at "execs cons") => `(tactic| (exfalso; exact absurd (two_fmod _) (by assumption)))
local macro_rules | `(tactic| walk_at "subscriptTail") => `(tactic| (k_here; k_dflt (first | (refine' subKey2_K (by assumption) (by assumption) (by assumption) (by assumption) (by assumption) (by omega) (by assumption) ?_) | (refine' subEnt2_K (by assumption) (by assumption) (by assumption) (by assumption) (by assumption) (by omega) (by assumption) ?_)); k_sweep))
local macro_rules | `(tactic| walk_at "getMethod") => `(tactic| (k_here; k_dflt (refine' meth_index_K (by assumption) (by assumption) (by assumption) (by assumption) (by assumption) ?_); k_sweep))
local macro_rules | `(tactic| walk_at "call builtin:list.index") => `(tactic| (k_here; k_dflt (refine' indexHit_K (Room.deeper (Room.less (by assumption) (by decide))) (by assumption) (by assumption) (by assumption) (by assumption) (by assumption) (by assumption) (by assumption) (by assumption) (by assumption) (by assumption) (by assumption) (by assumption) ?_); intro u' tk'; k_sweep))
theorem fn_next {Q : Value → Shared → Prop} (R : Room 14 A) (B : Below A₀ base outer h₀) (F : Fr h₀ L s.heap m) (X₀ : (hd.heap_39 w.params).In h₀) (N : News h₀ L s.heap news) (T : Top p loose mean mg mb h₀) (hA : A.frames = some (env :: outer)) (hf : env.frame = some L) (hke : env.scope.kind = .function)
    {na d kk : Addr} {ep es : Nat} {rs pre post : List Cell} {c : Cell} {k : Int} (hm : (na, arrO d (vals rs).toArray ep) ∈ news) (hdd : (d, W.dictOf [] es) ∈ news) (hk : NumIn news kk k) (hko : KeyOff rs kk) (h12 : 0 ≤ k ∧ k < 12)
    (hr : RowIn (entHash w.params) news rs) (ha : Asc rs) (hz : rs.length ≤ 400) (hs : rs = pre ++ c :: post) (hc : c.k = k)
    (q1 : post = [] → ∀ t h' tk, Fr h₀ L h' m → News h₀ L h' ((t, { cls := .type "tuple", data := .seq #[.none, .none] }) :: news) → (∀ p ∈ news, p.1 < t) → Q (.ref t) { s with heap := h', toks := tk })
    (q2 : ∀ c2 r, post = c2 :: r → ∀ t h' tk, Fr h₀ L h' m → News h₀ L h' ((t, { cls := .type "tuple", data := .seq #[.ref c2.ka, .ref c2.ea] }) :: news) → (∀ p ∈ news, p.1 < t) → Q (.ref t) { s with heap := h', toks := tk }) :
    wpAny (model PG w) A (call (.ref 59) [.ref kk, .ref na] []) Q E s := by
  have hpost : (post = [] ∧ ¬ 2 * (pre.length : Int) + 2 < 2 * (rs.length : Int)) ∨ (2 * (pre.length : Int) + 2 < 2 * (rs.length : Int) ∧ ∃ c2 r, post = c2 :: r ∧ KeyAt rs (2 * (pre.length : Int) + 2) c2) := by
    rcases post with _ | ⟨c2, r⟩
    · left; refine ⟨rfl, ?_⟩; rw [hs]; simp; omega
    · right
      refine ⟨by rw [hs]; simp; omega, c2, r, rfl, pre.length + 1, by omega, ?_⟩
      rw [hs, List.getElem?_append_right (by omega)]
      simp
  refine wpAny_call ?_
  refine' code_def B F X₀ N T hA hf hke ?k6 ?k7 ?k8 ?k9 ?kB ?_ ?c2 ?c3 ?c4 ?c5
  case k6 => k_is
  case k7 => k_is
  case k8 => have := R.dp; show A.depth < 1000; omega
  case k9 => exact BindsTo.of_eq rfl
  case c5 => decide
  case kB => exact locs rfl
  case c2 => exact rfl
  case c3 => exact rfl
  case c4 => exact rfl
  intro g' L' h' FG' F' N' B' X' T'
  rcases hpost with ⟨rfl, hlt⟩ | ⟨hlt, c2, r, rfl, hk2⟩
  all_goals k_steps
  · exact q1 rfl _ _ _ (by assumption) (by assumption) (by assumption)
  · exact q2 _ _ rfl _ _ _ (by assumption) (by assumption) (by assumption)
end
end Mine
end
section
open PySem PySem.W PySem.W.X PyProof.Rows
set_option maxRecDepth 100000
set_option maxHeartbeats 4000000
namespace Mine
section
variable {A : Around} {E : Value → Shared → Prop} {s : Shared} {w : World} {h₀ : Heap} {L na d a : Addr} {m : Str → Option Value} {news : List (Addr × Obj)} {g : Obj → List (Addr × Obj)} {ep : Nat} {k j : Int} {u : Tok} {Q : Value → Shared → Prop}
theorem cmp_lt_in {d1 : Addr} {t : Tok} (hA : AOk A) (X : (hd.heap_39 w.params).In s.heap) (ha : s.heap.get? a = some (numO d1 k t)) (h : ∀ tk, Q (.bool (decide (j < k))) { s with toks := tk }) :
    wpAny (model PG w) A (compareOp .Lt (.int j u) (.ref a)) Q E s := by
  show wpAny (model PG w) A (richCompare .Lt (.int j u) (.ref a)) Q E s
  have one : oneThing? .Lt (.int j u) (.ref a) = none := by rfl
  unfold richCompare
  simp only [one]
  refine wpAny_holding (wpAny_bind (wpAny_cRoomFor hA.room ?_))
  have t1 : Looks (model PG w) s.heap (typeOf (.int j u)) (.type "int") := Looks.of_pure rfl
  have hs : Looks (model PG w) s.heap (isSubtype (.ref 145) (.type "int")) true := looks_mroIn X (by kernel_rfl)
  refine wpAny_bind (t1.here (wpAny_bind ((own_type ha rfl).here ?_)))
  rw [if_pos (by decide)]
  refine wpAny_bind (hs.here ?_)
  rw [if_pos rfl]
  refine wpAny_bind (try_some (i := "int.__gt__") (v := .bool (decide (j < k))) (P := BoolPost s (decide (j < k))) X ha rfl (by kernel_rfl) (PySem.F.slot_int_gt.bind _) (hA.run (run_gt_ni X ha)) (fun v' s' q => ⟨q.1, ?_⟩) (by simp))
  obtain ⟨_, tk, rfl⟩ := q
  exact wpAny_bind (wpAny_rule (wpAny_pure (h tk)))
theorem ltIN_K (R : AOk A) (F : Fr h₀ L s.heap m) (X₀ : (hd.heap_39 w.params).In h₀) (N : News h₀ L s.heap news) (ha : NumIn news a k) (h : ∀ tk, Q (.bool (decide (j < k))) { s with toks := tk }) :
    wpAny (model PG w) A (compareOp .Lt (.int j u) (.ref a)) Q E s := by
  obtain ⟨d1, t1, ha⟩ := ha
  exact cmp_lt_in R (X₀.keeps F.keep) (N _ ha).1 h
theorem popKey_K {p r : List Cell} {c2 : Cell} {i : Int} (F : Fr h₀ L s.heap m) (X₀ : (hd.heap_39 w.params).In h₀) (N : News h₀ L s.heap news) (U : UpdF na (arrO d (vals (p ++ c2 :: r)).toArray ep) news g)
    (hi : i = 2 * (p.length : Int)) (hz : (p ++ c2 :: r).length ≤ 400) (h : ∀ ep' h', Fr h₀ L h' m → News h₀ L h' (g (arrO d (vals p ++ .ref c2.ea :: vals r).toArray ep')) → UpdF na (arrO d (vals p ++ .ref c2.ea :: vals r).toArray ep') (g (arrO d (vals p ++ .ref c2.ea :: vals r).toArray ep')) g → Q (.ref c2.ka) { s with heap := h' }) :
    wpAny (model PG w) A (call (.builtin "list.pop") [.ref na, .int i u]) Q E s := by
  refine pop_K (l1 := vals p) (x := .ref c2.ka) (l2 := .ref c2.ea :: vals r) F X₀ N U ?_ ?_ ?_ fun ep' h' F' N' => h ep' h' F' N' (updF_again U _)
  · simp [vals_app, vals]
  · rw [vals_len]; omega
  · rw [List.size_toArray, vals_len]; omega
theorem popEnt_K {p r : List Cell} {x : Value} {i : Int} (F : Fr h₀ L s.heap m) (X₀ : (hd.heap_39 w.params).In h₀) (N : News h₀ L s.heap news) (U : UpdF na (arrO d (vals p ++ x :: vals r).toArray ep) news g)
    (hi : i = 2 * (p.length : Int)) {c2 : Cell} (hz : (p ++ c2 :: r).length ≤ 400) (h : ∀ ep' h', Fr h₀ L h' m → News h₀ L h' (g (arrO d (vals (p ++ r)).toArray ep')) → Q x { s with heap := h' }) :
    wpAny (model PG w) A (call (.builtin "list.pop") [.ref na, .int i u]) Q E s := by
  simp only [List.length_append, List.length_cons] at hz
  refine pop_K (l1 := vals p) (x := x) (l2 := vals r) F X₀ N U rfl ?_ ?_ fun ep' h' F' N' => h ep' h' F' (by rw [vals_app]; exact N')
  · rw [vals_len]; omega
  · simp [vals_len]; omega
end
theorem updF_self {e : Addr} {o : Obj} {news : List (Addr × Obj)} {g : Obj → List (Addr × Obj)} (U : UpdF e o news g) : g o = news := by
  induction U with
  | head h => rfl
  | tail h _ ih => simp only [ih]
/-- what holds at each turn of the while of nums_clear_range -/
def ClrJ (na d : Addr) (g : Obj → List (Addr × Obj)) (p post : List Cell) (last : Int) (m₀ : Str → Option Value) (n : Nat) (m₁ : Str → Option Value) (news₁ : List (Addr × Obj)) : Prop :=
  m₁ = m₀ ∧ ∃ ep' rest gone, news₁ = g (arrO d (vals (p ++ rest)).toArray ep') ∧ UpdF na (arrO d (vals (p ++ rest)).toArray ep') news₁ g ∧ post = gone ++ rest ∧ n = rest.length ∧ ∀ x ∈ gone, x.k ≤ last
theorem clr_start {na d : Addr} {g : Obj → List (Addr × Obj)} {p post : List Cell} {last : Int} {ep : Nat} {news : List (Addr × Obj)} (U : UpdF na (arrO d (vals (p ++ post)).toArray ep) news g) (m₀ : Str → Option Value) : ClrJ na d g p post last m₀ post.length m₀ news :=
  ⟨rfl, ep, post, [], (updF_self U).symm, U, rfl, rfl, fun _ h => nomatch h⟩
theorem clr_turn {H : Int} {na d : Addr} {g : Obj → List (Addr × Obj)} {p post : List Cell} {last : Int} {ep : Nat} {news : List (Addr × Obj)} (U : UpdF na (arrO d (vals (p ++ post)).toArray ep) news g) (hr : RowIn H news (p ++ post)) (hz : (p ++ post).length ≤ 400)
    {m₀ m₁ : Str → Option Value} {n : Nat} {news₁ : List (Addr × Obj)} (hJ : ClrJ na d g p post last m₀ n m₁ news₁) :
    m₁ = m₀ ∧ ∃ ep' rest gone, news₁ = g (arrO d (vals (p ++ rest)).toArray ep') ∧ UpdF na (arrO d (vals (p ++ rest)).toArray ep') (g (arrO d (vals (p ++ rest)).toArray ep')) g ∧ (na, arrO d (vals (p ++ rest)).toArray ep') ∈ g (arrO d (vals (p ++ rest)).toArray ep') ∧ post = gone ++ rest ∧ n = rest.length ∧ (∀ x ∈ gone, x.k ≤ last) ∧ (p ++ rest).length ≤ 400 ∧
      ((rest = [] ∧ ¬ 2 * (p.length : Int) < 2 * ((p ++ rest).length : Int)) ∨ (∃ c2 r, rest = c2 :: r ∧ 2 * (p.length : Int) < 2 * ((p ++ c2 :: r).length : Int) ∧ KeyAt (p ++ c2 :: r) (2 * (p.length : Int)) c2 ∧ NumIn (g (arrO d (vals (p ++ rest)).toArray ep')) c2.ka c2.k)) := by
  obtain ⟨e1, ep', rest, gone, e2, U', e3, e4, h5⟩ := hJ
  subst e2
  refine ⟨e1, ep', rest, gone, rfl, U', updF_mem U', e3, e4, h5, ?_, ?_⟩
  · rw [e3] at hz; simp at hz ⊢; omega
  · rcases rest with _ | ⟨c2, r⟩
    · left; exact ⟨rfl, by simp⟩
    · right
      refine ⟨c2, r, rfl, by simp; omega, ⟨p.length, rfl, by simp⟩, ?_⟩
      exact ((hr.stay (stay_arr U _)) c2 (by rw [e3]; simp)).1
theorem clr_step {na d : Addr} {g : Obj → List (Addr × Obj)} {p gone r post : List Cell} {c2 : Cell} {last : Int} {ep ep' : Nat} {h₀ h : Heap} {L : Addr} {m₀ : Str → Option Value} {s : Shared} {Q : Flow → Shared → Prop} {tk : Nat} (F : Fr h₀ L h m₀) (N : News h₀ L h (g (arrO d (vals (p ++ r)).toArray ep')))
    (U : UpdF na (arrO d (vals (p ++ c2 :: r)).toArray ep) (g (arrO d (vals (p ++ c2 :: r)).toArray ep)) g) (hp : post = gone ++ c2 :: r) (hg : ∀ x ∈ gone, x.k ≤ last) (hk : c2.k ≤ last) :
    WhileStep2 h₀ L s (ClrJ na d g p post last m₀) Q (c2 :: r).length .next { s with heap := h, toks := tk } := by
  refine ⟨h, tk, m₀, _, r.length, rfl, F, N, by simp, rfl, ep', r, gone ++ [c2], rfl, updF_again U _, by rw [hp]; simp, rfl, fun x hx => ?_⟩
  rcases List.mem_append.mp hx with hx | hx
  · exact hg x hx
  · rw [List.mem_singleton.mp hx]; exact hk
theorem clr_close {P : Prop} {H : Int} {na d : Addr} {g : Obj → List (Addr × Obj)} {pre gone rest post : List Cell} {c : Cell} {k last : Int} {ep ep' : Nat} {news : List (Addr × Obj)} {h₀ h' : Heap} {L : Addr} {rs : List Cell} (U : UpdF na (arrO d (vals rs).toArray ep) news g) (hr : RowIn H news rs) (ha : Asc rs)
    (hs : rs = pre ++ c :: post) (hc : c.k = k) (hl : k ≤ last) (hp : post = gone ++ rest) (hg : ∀ x ∈ gone, x.k ≤ last) (hend : rest = [] ∨ ∃ c2 r, rest = c2 :: r ∧ ¬ c2.k ≤ last)
    (kN : News h₀ L h' (g (arrO d (vals (pre ++ [c] ++ rest)).toArray ep')))
    (h : ∀ rs' ep', News h₀ L h' (g (arrO d (vals rs').toArray ep')) → RowIn H (g (arrO d (vals rs').toArray ep')) rs' → Asc rs' → rs'.length ≤ rs.length → (∀ x, look rs' x = if k < x ∧ x ≤ last then none else look rs x) → P) : P := by
  have ers : rs = (pre ++ [c]) ++ (gone ++ rest) := by rw [hs, hp]; simp
  have ha0 := ha
  rw [ers] at ha
  obtain ⟨a1, a2, a3⟩ := List.pairwise_append.mp ha
  obtain ⟨b1, b2, b3⟩ := List.pairwise_append.mp a2
  have hrest : ∀ x ∈ rest, last < x.k := by
    rcases hend with rfl | ⟨c2, r, rfl, hn⟩
    · intro x hx; cases hx
    · intro x hx
      rcases List.mem_cons.mp hx with rfl | hx
      · omega
      · have := (List.pairwise_cons.mp b2).1 x hx; omega
  have hgone : ∀ x ∈ gone, k < x.k := fun x hx => by
    have := a3 c (by simp) x (List.mem_append_left _ hx)
    omega
  have hpre : ∀ x ∈ pre ++ [c], x.k ≤ k := fun x hx => by
    rcases List.mem_append.mp hx with hx | hx
    · have := (List.pairwise_append.mp a1).2.2 x hx c (by simp)
      omega
    · rw [List.mem_singleton.mp hx]; omega
  refine h _ _ kN ?_ ?_ ?_ fun x => ?_
  · intro x hx
    refine (hr.stay (stay_arr U _)) x ?_
    rw [ers]
    rcases List.mem_append.mp hx with hx | hx
    · exact List.mem_append_left _ hx
    · exact List.mem_append_right _ (List.mem_append_right _ hx)
  · exact List.pairwise_append.mpr ⟨a1, b2, fun x hx y hy => a3 x hx y (List.mem_append_right _ hy)⟩
  · rw [ers]; simp
  · rw [ers, look_app (a := pre ++ [c]) (b := rest), look_app (a := pre ++ [c]) (b := gone ++ rest), look_app (a := gone) (b := rest)]
    by_cases q : k < x ∧ x ≤ last
    · rw [if_pos q, look_none (fun y hy => by have := hpre y hy; omega), look_none (fun y hy => by have := hrest y hy; omega)]
      rfl
    · rw [if_neg q, look_none (b := gone) (fun y hy => by have h1 := hgone y hy; have h2 := hg y hy; omega)]
      simp
end Mine
end
section
open PySem PySem.W PySem.W.X PyProof.Rows
set_option maxRecDepth 100000
set_option maxHeartbeats 4000000
namespace Mine
theorem fill16 : hd.heap_39 = hd.heap_39 ∧ PySem.Challenge.rw_ee5012_01 = PySem.Challenge.rw_ee5012_01 := by
  k_fill
  exact ⟨rfl, rfl⟩
section
variable {A A₀ : Around} {E : Value → Shared → Prop} {s : Shared} {w : World} {base h₀ : Heap} {outer : List Env} {env : Env} {L : Addr} {m : Str → Option Value} {news : List (Addr × Obj)}
  {p : Program} {loose : List Str} {mean : ExcName → Option Value} {mg mb : Str → Option Value}
local macro_rules | `(tactic| kc_close) => `(tactic| (apply_assumption <;> assumption))
local macro_rules | `(tactic| walk_at "call builtin:len") => `(tactic| (k_here; k_dflt (refine' rowLen_K (by assumption) (by assumption) (by assumption) (by assumption) (by assumption) ?_); k_sweep))
local macro_rules | `(tactic| walk_at "execs cons") => `(tactic| (exfalso; exact absurd (two_fmod _) (by assumption)))
local macro_rules | `(tactic| walk_at "subscriptTail") => `(tactic| (k_here; k_dflt (refine' subKey2_K (by assumption) (by assumption) (by assumption) (by assumption) (by assumption) (by omega) (by assumption) ?_); k_sweep))
local macro_rules | `(tactic| walk_at "getMethod") => `(tactic| (k_here; k_dflt (first | (refine' meth_index_K (by assumption) (by assumption) (by assumption) (by assumption) (by assumption) ?_) | (refine' meth_pop_K (by assumption) (by assumption) (by assumption) (updF_mem (by assumption)) (by apply_assumption) ?_)); k_sweep))
local macro_rules | `(tactic| walk_at "call builtin:list.index") => `(tactic| (k_here; k_dflt (refine' indexHit_K (Room.deeper (Room.less (by assumption) (by decide))) (by assumption) (by assumption) (by assumption) (by assumption) (by assumption) (by assumption) (by assumption) (by assumption) (by assumption) (by assumption) (by assumption) (by assumption) ?_); intro u' tk'; k_sweep))
local macro_rules | `(tactic| walk_at "call builtin:list.pop") => `(tactic| (k_here; k_dflt (first | (refine' popKey_K (by assumption) (by assumption) (by assumption) (by assumption) (by omega) (by assumption) ?_; intro ep' h' F' N' U') | (refine' popEnt_K (by assumption) (by assumption) (by assumption) (by assumption) (by omega) (by assumption) ?_; intro ep' h' F' N')); k_sweep))
local macro_rules | `(tactic| walk_at "compareOp LtE ref") => `(tactic| (k_here; k_dflt (refine' leNI_K (Room.ok (n := 0) (Room.deeper (Room.less (by assumption) (by decide)))) (by assumption) (by assumption) (by assumption) (by assumption) ?_); intro tk'; k_sweep))
local macro_rules | `(tactic| walk_at "compareOp Lt int") => `(tactic| (k_here; k_dflt (refine' ltIN_K (Room.ok (n := 0) (Room.deeper (Room.less (by assumption) (by decide)))) (by assumption) (by assumption) (by assumption) (by assumption) ?_); intro tk'; k_sweep))
local macro_rules | `(tactic| walk_at "WhileStep2") => `(tactic| (k_dflt (refine' clr_step (by assumption) (by assumption) (by assumption) (by assumption) (by assumption) (by assumption))))
local macro_rules | `(tactic| walk_at "exec While") => `(tactic| (k_here; (rename Fr _ _ _ _ => lF'); (rename News _ _ _ _ => lN'); (rename UpdF _ _ _ _ => lU'); (rename RowIn _ _ _ => lR'); (rename List.length _ ≤ 400 => lz'); k_dflt (refine' While_inv2 (ClrJ _ _ _ _ _ _ _) lF' lN' (clr_start (last := by assumption) lU' _) ?_ ?hE; (case hE => first | passes_own | with_unfolding_all passes_own)); clear lF' lN'; (intro n m₁ news₁ h₁ tk₁ F₁ N₁ hJ; k_dflt (obtain ⟨e1, ep1, rest, gone, e2, U1, U2, e3, e4, hg, hz1, hcs⟩ := clr_turn lU' lR' lz' hJ); subst e1; subst e2; subst e4; k_dflt (rcases hcs with ⟨hc1, hc2⟩ | ⟨c2, r, hc1, hc2, hc3, hc4⟩) <;> subst hc1)))
theorem fn_clear {Q : Value → Shared → Prop} (R : Room 14 A) (B : Below A₀ base outer h₀) (F : Fr h₀ L s.heap m) (X₀ : (hd.heap_39 w.params).In h₀) (N : News h₀ L s.heap news) (T : Top p loose mean mg mb h₀) (hA : A.frames = some (env :: outer)) (hf : env.frame = some L) (hke : env.scope.kind = .function)
    {na d kk : Addr} {ep es : Nat} {pp pre post : List Cell} {c : Cell} {g : Obj → List (Addr × Obj)} {k last : Int} {u : Tok} (U : UpdF na (arrO d (vals (pp ++ post)).toArray ep) news g) (hdd : (d, W.dictOf [] es) ∈ news) (hk : NumIn news kk k) (hko : KeyOff (pp ++ post) kk) (h12 : 0 ≤ k ∧ k < 12)
    (hr : RowIn (entHash w.params) news (pp ++ post)) (ha : Asc (pp ++ post)) (hz : (pp ++ post).length ≤ 400) (hs : pp ++ post = pre ++ c :: post) (hpp : pp = pre ++ [c]) (hc : c.k = k) (hl : k ≤ last)
    (h : ∀ rs' ep' h' tk, Fr h₀ L h' m → News h₀ L h' (g (arrO d (vals rs').toArray ep')) → RowIn (entHash w.params) (g (arrO d (vals rs').toArray ep')) rs' → Asc rs' → rs'.length ≤ (pp ++ post).length →
      (∀ x, look rs' x = if k < x ∧ x ≤ last then none else look (pp ++ post) x) → Q .none { s with heap := h', toks := tk }) :
    wpAny (model PG w) A (call (.ref 52) [.ref kk, .int last u, .ref na] []) Q E s := by
  have hm : (na, arrO d (vals (pp ++ post)).toArray ep) ∈ news := updF_mem U
  have hdd' : ∀ o', (d, W.dictOf [] es) ∈ g o' := fun o' => updF_stays U o' hdd (fun z => by
    have h1 := (N _ hdd).1
    have h2 := (N _ (updF_mem U)).1
    simp only at z h1 h2
    rw [z, h2] at h1
    cases h1)
  have hlt : (pp.length : Int) = (pre.length : Int) + 1 := by rw [hpp]; simp
  refine wpAny_call ?_
  refine' code_def B F X₀ N T hA hf hke ?k6 ?k7 ?k8 ?k9 ?kB ?_ ?c2 ?c3 ?c4 ?c5
  case k6 => k_is
  case k7 => k_is
  case k8 => have := R.dp; show A.depth < 1000; omega
  case k9 => exact BindsTo.of_eq rfl
  case c5 => decide
  case kB => exact locs rfl
  case c2 => exact rfl
  case c3 => exact rfl
  case c4 => exact rfl
  intro g' L' h' FG' F' N' B' X' T'
  k_steps
  all_goals subst hpp
  all_goals first
    | exact clr_close (by assumption) (by assumption) (by assumption) hs hc hl (by assumption) (by assumption) (.inl rfl) (by assumption) (fun rs' ep' => h rs' ep' _ _ (by assumption))
    | exact clr_close (by assumption) (by assumption) (by assumption) hs hc hl (by assumption) (by assumption) (.inr ⟨_, _, rfl, by assumption⟩) (by assumption) (fun rs' ep' => h rs' ep' _ _ (by assumption))
end
end Mine
end
section
open PySem PySem.W PySem.W.X PyProof.Rows
set_option maxRecDepth 100000
set_option maxHeartbeats 4000000
namespace Mine
local macro_rules | `(tactic| walk_at "never S17 0") => `(tactic| fail "never")
local macro_rules | `(tactic| walk_at "never S17 1") => `(tactic| fail "never")
local macro_rules | `(tactic| walk_at "never S17 2") => `(tactic| fail "never")
local macro_rules | `(tactic| walk_at "never S17 3") => `(tactic| fail "never")
local macro_rules | `(tactic| walk_at "never S17 4") => `(tactic| fail "never")
local macro_rules | `(tactic| walk_at "never S17 5") => `(tactic| fail "never")
local macro_rules | `(tactic| walk_at "never S17 6") => `(tactic| fail "never")
local macro_rules | `(tactic| walk_at "never S17 7") => `(tactic| fail "never")
local macro_rules | `(tactic| walk_at "never S17 8") => `(tactic| fail "never")
local macro_rules | `(tactic| walk_at "never S17 9") => `(tactic| fail "never")
local macro_rules | `(tactic| walk_at "never S17 10") => `(tactic| fail "never")
local macro_rules | `(tactic| walk_at "never S17 11") => `(tactic| fail "never")
local macro_rules | `(tactic| walk_at "never S17 12") => `(tactic| fail "never")
local macro_rules | `(tactic| walk_at "never S17 13") => `(tactic| fail "never")
local macro_rules | `(tactic| walk_at "never S17 14") => `(tactic| fail "never")
local macro_rules | `(tactic| walk_at "never S17 15") => `(tactic| fail "never")
local macro_rules | `(tactic| walk_at "never S17 16") => `(tactic| fail "never")
local macro_rules | `(tactic| walk_at "never S17 17") => `(tactic| fail "never")
local macro_rules | `(tactic| walk_at "never S17 18") => `(tactic| fail "never")
local macro_rules | `(tactic| walk_at "never S17 19") => `(tactic| fail "never")
local macro_rules | `(tactic| walk_at "never S17 20") => `(tactic| fail "never")
local macro_rules | `(tactic| walk_at "never S17 21") => `(tactic| fail "never")
local macro_rules | `(tactic| walk_at "never S17 22") => `(tactic| fail "never")
local macro_rules | `(tactic| walk_at "never S17 23") => `(tactic| fail "never")
local macro_rules | `(tactic| walk_at "never S17 24") => `(tactic| fail "never")
local macro_rules | `(tactic| walk_at "never S17 25") => `(tactic| fail "never")
local macro_rules | `(tactic| walk_at "never S17 26") => `(tactic| fail "never")
local macro_rules | `(tactic| walk_at "never S17 27") => `(tactic| fail "never")
local macro_rules | `(tactic| walk_at "never S17 28") => `(tactic| fail "never")
local macro_rules | `(tactic| walk_at "never S17 29") => `(tactic| fail "never")
theorem fill17 : hd.heap_39 = hd.heap_39 ∧ PySem.Challenge.rw_ee5012_01 = PySem.Challenge.rw_ee5012_01 := by
  k_fill
  exact ⟨rfl, rfl⟩
section
variable {A A₀ : Around} {E : Value → Shared → Prop} {s : Shared} {w : World} {base h₀ : Heap} {outer : List Env} {env : Env} {L : Addr} {m : Str → Option Value} {news : List (Addr × Obj)}
  {p : Program} {loose : List Str} {mean : ExcName → Option Value} {mg mb : Str → Option Value}
local macro_rules | `(tactic| kc_close) => `(tactic| (apply_assumption <;> assumption))
local macro_rules | `(tactic| walk_at "call builtin:len") => `(tactic| (k_here; k_dflt (refine' rowLen_K (by assumption) (by assumption) (by assumption) (by assumption) (by assumption) ?_); k_sweep))
local macro_rules | `(tactic| walk_at "execs cons") => `(tactic| (exfalso; exact absurd (two_fmod _) (by assumption)))
local macro_rules | `(tactic| walk_at "getMethod") => `(tactic| (k_here; k_dflt (refine' meth_index_K (by assumption) (by assumption) (by assumption) (by assumption) (by assumption) ?_); k_sweep))
local macro_rules | `(tactic| walk_at "call builtin:list.index") => `(tactic| (k_here; k_dflt (refine' indexMiss_K (Room.deeper (n := 1) (Room.deeper (Room.less (by assumption) (by decide)))) (by assumption) (by assumption) (by assumption) (by assumption) (by assumption) (by assumption) (by assumption) (by assumption) (by assumption) (by assumption) ?_); intro h' tk' e' m' hx'))
theorem room_deep {n : Nat} {A : Around} {e : Env} (R : Room (n + 1) A) : (A.deeper e).depth < recursionLimit := by
  have := R.dp; show A.depth + 1 < 1000; omega
local macro_rules | `(tactic| walk_at "call ref") => `(tactic| (k_here; k_dflt (refine wpAny_call ?_; (refine' code_def ?k1 ?k2 ?k3 ?k4 ?k5 (deeper_frames (by assumption)) (by exact rfl) (by exact rfl) ?k6 ?k7 (room_deep (n := 13) (by assumption)) ?k9 ?kB ?_ ?c2 ?c3 ?c4 ?c5; (case k2 => k_asm); (case k1 => k_asm); (case k3 => k_asm); (case k4 => k_asm); (case k5 => k_asm); (case k6 => k_is); (case k7 => k_is); (case k9 => exact BindsTo.of_eq rfl); (case c5 => decide); (case kB => exact locs rfl); (case c2 => exact rfl); (case c3 => exact rfl); (case c4 => exact rfl); k_whole; intro g' L' h' FG' F' N' B' X' T'; (try dsimp only); (try k_lift B'); (try k_fold)))))
/-- a def of the text is entered from the law's own frame; what it caught may have touched that frame's slots -/
theorem enter0 {prog : Program} {w : World} {A₀ A : Around} {s : Shared} {base h₀ : Heap} {L : Addr} {m : Str → Option Value} {env : Env} {news : List (Addr × Obj)} {K : Frag} {p : Program} {loose : List Str} {mean : ExcName → Option Value} {mg mb : Str → Option Value}
    {R : Result → Shared → Prop} {name qual : Str} {params : Arguments} {body : List Stmt} {scope : Scope} {dV kV doc pm cdv ct oc : Value} {an od : Option Addr} {osl : Array (Option Value)} {f : Addr} {args : Args} {binds : List (Str × Value)}
    (B : Below A₀ base [] h₀) (F : Fr h₀ L s.heap m) (X₀ : K.In h₀) (N : News h₀ L s.heap news) (T : Top p loose mean mg mb h₀) (hA : A.frames = some [env]) (hf : env.frame = some L) (hke : env.scope.kind = .function)
    (ho : K.lookup f = some ⟨oc, od, .func (fnOf name qual params body scope dV kV doc pm an cdv ct), osl⟩) (hcd : codeIn K cdv qual = true) (hroom : A.depth < recursionLimit)
    (hbind : BindsTo s (fnOf name qual params body scope dV kV doc pm an cdv ct) args binds) (hloc : ∀ y ∈ binds, scope.names.lookup y.1 = some .local)
    (h : ∀ g L' h₁, Fr h₀ L g m → Fr g L' h₁ (fun y => binds.reverse.lookup y) → News g L' h₁ news → Below A base [env] g → K.In g → Top p loose mean mg mb g → KtsDicts ([env].filterMap (·.frame)) g →
      wpAny (model prog w) (A.deeper (envOf qual scope L' f cdv)) (execs body (envOf qual scope L' f cdv))
        (fun fl s' => LeaveS0 ([env].filterMap (·.frame)) h₀ L m g R (match fl with | .ret v => v | _ => .none) s')
        (fun e s' => wpAny (model prog w) (A.deeper (envOf qual scope L' f cdv)) (leaving (envOf qual scope L' f cdv) e) (fun _ s'' => R (.error e) s'') (fun e' s'' => R (.error e') s'') s')
        { s with heap := h₁, toks := s.toks + binds.length })
    (hco : scope.isCoroutine = false) (hgen : scope.isGenerator = false) (hk : scope.kind = .function) (hcell : ∀ x ∈ scope.names, x.2 ≠ .cell) : codeAny (model prog w) A (.call (.ref f) args) R s := by
  have X := X₀.keeps F.keep
  have hone : ∀ b, b ∈ [env].filterMap (·.frame) → b = L := fun b hb => by
    obtain ⟨e, he, q⟩ := List.mem_filterMap.mp hb
    rw [List.mem_singleton.mp he, hf] at q
    exact (Option.some.inj q).symm
  have off : ∀ b o, h₀.get? b = some o → b ∉ news.map (·.1) := fun b o e q => by
    obtain ⟨y, hy, z⟩ := List.mem_map.mp q
    have := (N y hy).2.2
    rw [z, e] at this
    cases this
  have stay : ∀ b o, h₀.get? b = some o → (hideAll s.heap (news.map (·.1))).get? b = some o := fun b o e => hideAll_get _ (F.keep b o e) (off b o e)
  have hL0 : h₀.get? L = none := kts_self F
  obtain ⟨oL, es, ep, g1, g2, g3, g4⟩ := F.ns
  have hLoff : L ∉ news.map (·.1) := fun q => by
    obtain ⟨y, hy, z⟩ := List.mem_map.mp q
    exact (N y hy).2.1 z
  have gL := hideAll_get _ g1 hLoff
  have gns : ∀ (sl : Array (Option Value)) h', h'.get? L = some { oL with slots := sl } → Heap.Ns h' L m := fun sl h' e => ⟨_, es, ep, e, g2, g3, g4⟩
  have FG : Fr h₀ L (hideAll s.heap (news.map (·.1))) m := ⟨⟨oL, es, ep, gL, g2, g3, g4⟩, stay, F.above⟩
  have hnew : base.get? L = none := by
    cases q : base.get? L with
    | none => rfl
    | some o => rw [B.stays _ _ q] at hL0; cases hL0
  have BG : Below A base [env] (hideAll s.heap (news.map (·.1))) := ⟨hA, fun b o e => stay b o (B.stays b o e), .cons (by rw [hke]; decide) hf FG.ns hnew trivial⟩
  refine codeAny_call_def (fd := fnOf name qual params body scope dV kV doc pm an cdv ct) (body := body) (binds := binds) hroom (X _ _ ho) rfl (T.nolimit.keeps F.keep) (codeRec_of X hcd) rfl hbind hcell hloc (fun h₁ hns hk₁ => ?_) hco hgen hk
  have F₁ : Fr (hideAll s.heap (news.map (·.1))) s.heap.objs.size h₁ (fun y => binds.reverse.lookup y) := ⟨hns, fun b o e => hk₁ b o (of_hideAll _ e), Nat.le_of_eq (hideAll_size _ _)⟩
  have N₁ : News (hideAll s.heap (news.map (·.1))) s.heap.objs.size h₁ news := fun q hq => ⟨hk₁ _ _ (N q hq).1, Nat.ne_of_lt (Heap.lt_size (N q hq).1), hideAll_none _ (List.mem_map_of_mem hq)⟩
  refine wpAny_mono (h _ _ _ FG F₁ N₁ BG (X₀.keeps stay) (T.keeps stay) fun b hb => ⟨oL, es, ep, by rw [hone b hb]; exact gL, g2⟩) (fun fl s' hl => ?_) fun _ _ y => y
  obtain ⟨g', L', m', news', T', F', N', k⟩ := hl
  obtain ⟨sl, hs⟩ := T'.up gL
  have keep' : ∀ b o, h₀.get? b = some o → s'.heap.get? b = some o := fun b o e => F'.keep b o (T'.other b o (stay b o e) fun hb => by
    rw [hone b hb, hL0] at e; cases e)
  refine k ⟨gns sl _ (F'.keep _ _ hs), keep', F.above⟩ fun q hq => ⟨(N' q hq).1, fun z => ?_, ?_⟩
  · have := (N' q hq).2.2
    rw [z, hs] at this
    cases this
  · cases e : h₀.get? q.1 with
    | none => rfl
    | some o =>
      obtain ⟨sl', e'⟩ := T'.up (stay _ _ e)
      have := (N' q hq).2.2
      rw [e'] at this
      cases this
theorem refuses_next {Q : Value → Shared → Prop} (R : Room 14 A) (B : Below A₀ base [] h₀) (F : Fr h₀ L s.heap m) (X₀ : (hd.heap_39 w.params).In h₀) (N : News h₀ L s.heap news) (T : Top p loose mean mg mb h₀) (XB : (hd.heap_39 w.params).In base) (TB : Top p loose mean mg mb base)
    (hA : A.frames = some [env]) (hf : env.frame = some L) (hke : env.scope.kind = .function)
    {na d kk : Addr} {ep es : Nat} {rs : List Cell} {k : Int} (hm : (na, arrO d (vals rs).toArray ep) ∈ news) (hdd : (d, W.dictOf [] es) ∈ news) (hk : NumIn news kk k) (hko : KeyOff rs kk) (h12 : 0 ≤ k ∧ k < 12)
    (hr : RowIn (entHash w.params) news rs) (hz : rs.length ≤ 400) (hn : ∀ x ∈ rs, x.k ≠ k)
    (h : ∀ h' tk, Fr h₀ L h' m → News h₀ L h' news → Q (.bool true) { s with heap := h', toks := tk }) :
    wpAny (model PG w) A (call (.ref 363) [.ref 59, .ref kk, .none, .ref na] []) Q E s := by
  refine wpAny_call ?_
  refine' enter0 B F X₀ N T hA hf hke ?k6 ?k7 ?k8 ?k9 ?kB ?_ ?c2 ?c3 ?c4 ?c5
  case k6 => k_is
  case k7 => k_is
  case k8 => have := R.dp; show A.depth < 1000; omega
  case k9 => exact BindsTo.of_eq rfl
  case c5 => decide
  case kB => exact locs rfl
  case c2 => exact rfl
  case c3 => exact rfl
  case c4 => exact rfl
  intro g' L' h' FG' F' N' B' X' T' D'
  k_steps
end
end Mine
end
section
open PySem PySem.W PySem.W.X PyProof.Rows
set_option maxRecDepth 100000
set_option maxHeartbeats 4000000
namespace Mine
theorem fill18 : hd.heap_39 = hd.heap_39 ∧ PySem.Challenge.rw_ee5012_01 = PySem.Challenge.rw_ee5012_01 := by
  k_fill
  exact ⟨rfl, rfl⟩
theorem len1_K {A : Around} {E : Value → Shared → Prop} {s : Shared} {w : World} {h₀ : Heap} {L na d : Addr} {m : Str → Option Value} {news : List (Addr × Obj)} {ep : Nat} {x : Value} {Q : Value → Shared → Prop} (F : Fr h₀ L s.heap m) (X₀ : (hd.heap_39 w.params).In h₀) (N : News h₀ L s.heap news) (hm : (na, arrO d #[x] ep) ∈ news)
    (h : Q (.int 1 (s.toks + 1)) { s with toks := s.toks + 1 + 1 }) : wpAny (model PG w) A (call (.builtin "len") [.ref na]) Q E s := len_K F X₀ N hm (by simp) h
theorem len2_K {A : Around} {E : Value → Shared → Prop} {s : Shared} {w : World} {h₀ : Heap} {L na d : Addr} {m : Str → Option Value} {news : List (Addr × Obj)} {ep : Nat} {x y : Value} {Q : Value → Shared → Prop} (F : Fr h₀ L s.heap m) (X₀ : (hd.heap_39 w.params).In h₀) (N : News h₀ L s.heap news) (hm : (na, arrO d #[x, y] ep) ∈ news)
    (h : Q (.int 2 (s.toks + 1)) { s with toks := s.toks + 1 + 1 }) : wpAny (model PG w) A (call (.builtin "len") [.ref na]) Q E s := len_K F X₀ N hm (by simp) h
section
variable {A A₀ : Around} {E : Value → Shared → Prop} {s : Shared} {w : World} {base h₀ : Heap} {outer : List Env} {env : Env} {L : Addr} {m : Str → Option Value} {news : List (Addr × Obj)}
  {p : Program} {loose : List Str} {mean : ExcName → Option Value} {mg mb : Str → Option Value}
local macro_rules | `(tactic| kc_close) => `(tactic| (apply_assumption <;> assumption))
local macro_rules | `(tactic| walk_at "call builtin:len") => `(tactic| (k_here; k_dflt (refine' rowLen_K (by assumption) (by assumption) (by assumption) (by assumption) (by assumption) ?_); k_sweep))
local macro_rules | `(tactic| walk_at "execs cons") => `(tactic| (exfalso; exact absurd (two_fmod _) (by assumption)))
local macro_rules | `(tactic| walk_at "getMethod") => `(tactic| (k_here; k_dflt (refine' meth_index_K (by assumption) (by assumption) (by assumption) (by assumption) (by assumption) ?_); k_sweep))
local macro_rules | `(tactic| walk_at "call builtin:list.index") => `(tactic| (k_here; k_dflt (refine' indexMiss_K (Room.deeper (n := 1) (Room.deeper (Room.less (by assumption) (by decide)))) (by assumption) (by assumption) (by assumption) (by assumption) (by assumption) (by assumption) (by assumption) (by assumption) (by assumption) (by assumption) ?_); intro h' tk' e' m' hx'))
theorem deep_hd {n : Nat} {A : Around} {e1 e2 : Env} (R : Room n A) : ((A.deeper e1).deeper e2).handled = none := R.hd
local macro_rules | `(tactic| walk_at "exec Raise some none") => `(tactic| (k_here; (with_reducible rename Fr _ _ _ _ => kF); (with_unfolding_all refine Raise_madeB PySem.F.excCall_ValueError PySem.F.excRaise_ValueError (deep_hd (n := 14) (by assumption)) ?hx); k_dflt (refine' name_B kF ?k1 ?k2 ?k3 ?k4 ?k5 ?_; (case k1 => k_asm); (case k2 => k_asm); (case k3 => k_is); (case k4 => boot_by_name); (case k5 => decide); refine ⟨rfl, ?_⟩)))
local macro_rules | `(tactic| walk_at "call ref") => `(tactic| (k_here; k_dflt (refine wpAny_call ?_; (refine' code_def ?k1 ?k2 ?k3 ?k4 ?k5 (deeper_frames (by assumption)) (by exact rfl) (by exact rfl) ?k6 ?k7 (room_deep (n := 13) (by assumption)) ?k9 ?kB ?_ ?c2 ?c3 ?c4 ?c5; (case k2 => k_asm); (case k1 => k_asm); (case k3 => k_asm); (case k4 => k_asm); (case k5 => k_asm); (case k6 => k_is); (case k7 => k_is); (case k9 => exact BindsTo.of_eq rfl); (case c5 => decide); (case kB => exact locs rfl); (case c2 => exact rfl); (case c3 => exact rfl); (case c4 => exact rfl); k_whole; intro g' L' h' FG' F' N' B' X' T'; (try dsimp only); (try k_lift B'); (try k_fold)))))
local macro_rules | `(tactic| walk_at "compareOp Lt int") => `(tactic| (k_here; k_dflt (refine' ltIN_K (Room.ok (n := 0) (Room.deeper (n := 0) (Room.deeper (n := 1) (Room.less (by assumption) (by decide))))) (by assumption) (by assumption) (by assumption) (by assumption) ?_); intro tk'; k_sweep))
local macro_rules | `(tactic| walk_at "call builtin:len") => `(tactic| (k_here; k_dflt (first | (refine' len1_K (by assumption) (by assumption) (by assumption) (by assumption) ?_) | (refine' len2_K (by assumption) (by assumption) (by assumption) (by assumption) ?_) | (refine' rowLen_K (by assumption) (by assumption) (by assumption) (by assumption) (by assumption) ?_)); k_sweep))
theorem refuses_clear {Q : Value → Shared → Prop} (R : Room 14 A) (B : Below A₀ base [] h₀) (F : Fr h₀ L s.heap m) (X₀ : (hd.heap_39 w.params).In h₀) (N : News h₀ L s.heap news) (T : Top p loose mean mg mb h₀) (XB : (hd.heap_39 w.params).In base) (TB : Top p loose mean mg mb base)
    (hA : A.frames = some [env]) (hf : env.frame = some L) (hke : env.scope.kind = .function)
    {na d kk : Addr} {ep es : Nat} {rs : List Cell} {k : Int} {u : Tok} (hm : (na, arrO d (vals rs).toArray ep) ∈ news) (hdd : (d, W.dictOf [] es) ∈ news) (hk : NumIn news kk k) (hko : KeyOff rs kk) (h12 : 0 ≤ k ∧ k < 12) (h12a : 0 ≤ k) (h12b : k < 12)
    (hr : RowIn (entHash w.params) news rs) (hz : rs.length ≤ 400) (hn : ∀ x ∈ rs, x.k ≠ k)
    (h : ∀ h' tk, Fr h₀ L h' m → News h₀ L h' news → Q (.bool true) { s with heap := h', toks := tk }) :
    wpAny (model PG w) A (call (.ref 363) [.ref 52, .ref kk, .int 20 u, .ref na] []) Q E s := by
  refine wpAny_call ?_
  refine' enter0 B F X₀ N T hA hf hke ?k6 ?k7 ?k8 ?k9 ?kB ?_ ?c2 ?c3 ?c4 ?c5
  case k6 => k_is
  case k7 => k_is
  case k8 => have := R.dp; show A.depth < 1000; omega
  case k9 => exact BindsTo.of_eq rfl
  case c5 => decide
  case kB => exact locs rfl
  case c2 => exact rfl
  case c3 => exact rfl
  case c4 => exact rfl
  intro g' L' h' FG' F' N' B' X' T' D'
  k_steps
theorem odd_insert {Q : Value → Shared → Prop} (R : Room 14 A) (B : Below A₀ base [] h₀) (F : Fr h₀ L s.heap m) (X₀ : (hd.heap_39 w.params).In h₀) (N : News h₀ L s.heap news) (T : Top p loose mean mg mb h₀) (XB : (hd.heap_39 w.params).In base) (TB : Top p loose mean mg mb base)
    (hA : A.frames = some [env]) (hf : env.frame = some L) (hke : env.scope.kind = .function)
    {oa d kk ee : Addr} {ep : Nat} {x : Value} (hm : (oa, arrO d #[x] ep) ∈ news)
    (h : ∀ h' tk, Fr h₀ L h' m → News h₀ L h' news → Q (.bool true) { s with heap := h', toks := tk }) :
    wpAny (model PG w) A (call (.ref 363) [.ref 45, .ref kk, .ref ee, .ref oa] []) Q E s := by
  refine wpAny_call ?_
  refine' enter0 B F X₀ N T hA hf hke ?k6 ?k7 ?k8 ?k9 ?kB ?_ ?c2 ?c3 ?c4 ?c5
  case k6 => k_is
  case k7 => k_is
  case k8 => have := R.dp; show A.depth < 1000; omega
  case k9 => exact BindsTo.of_eq rfl
  case c5 => decide
  case kB => exact locs rfl
  case c2 => exact rfl
  case c3 => exact rfl
  case c4 => exact rfl
  intro g' L' h' FG' F' N' B' X' T' D'
  k_steps
theorem odd_next {Q : Value → Shared → Prop} (R : Room 14 A) (B : Below A₀ base [] h₀) (F : Fr h₀ L s.heap m) (X₀ : (hd.heap_39 w.params).In h₀) (N : News h₀ L s.heap news) (T : Top p loose mean mg mb h₀) (XB : (hd.heap_39 w.params).In base) (TB : Top p loose mean mg mb base)
    (hA : A.frames = some [env]) (hf : env.frame = some L) (hke : env.scope.kind = .function)
    {oa d kk : Addr} {ep : Nat} {x : Value} (hm : (oa, arrO d #[x] ep) ∈ news)
    (h : ∀ h' tk, Fr h₀ L h' m → News h₀ L h' news → Q (.bool true) { s with heap := h', toks := tk }) :
    wpAny (model PG w) A (call (.ref 363) [.ref 59, .ref kk, .none, .ref oa] []) Q E s := by
  refine wpAny_call ?_
  refine' enter0 B F X₀ N T hA hf hke ?k6 ?k7 ?k8 ?k9 ?kB ?_ ?c2 ?c3 ?c4 ?c5
  case k6 => k_is
  case k7 => k_is
  case k8 => have := R.dp; show A.depth < 1000; omega
  case k9 => exact BindsTo.of_eq rfl
  case c5 => decide
  case kB => exact locs rfl
  case c2 => exact rfl
  case c3 => exact rfl
  case c4 => exact rfl
  intro g' L' h' FG' F' N' B' X' T' D'
  k_steps
theorem odd_clear {Q : Value → Shared → Prop} (R : Room 14 A) (B : Below A₀ base [] h₀) (F : Fr h₀ L s.heap m) (X₀ : (hd.heap_39 w.params).In h₀) (N : News h₀ L s.heap news) (T : Top p loose mean mg mb h₀) (XB : (hd.heap_39 w.params).In base) (TB : Top p loose mean mg mb base)
    (hA : A.frames = some [env]) (hf : env.frame = some L) (hke : env.scope.kind = .function)
    {oa d kk : Addr} {ep : Nat} {x : Value} {u : Tok} (hm : (oa, arrO d #[x] ep) ∈ news)
    (h : ∀ h' tk, Fr h₀ L h' m → News h₀ L h' news → Q (.bool true) { s with heap := h', toks := tk }) :
    wpAny (model PG w) A (call (.ref 363) [.ref 52, .ref kk, .int 9 u, .ref oa] []) Q E s := by
  refine wpAny_call ?_
  refine' enter0 B F X₀ N T hA hf hke ?k6 ?k7 ?k8 ?k9 ?kB ?_ ?c2 ?c3 ?c4 ?c5
  case k6 => k_is
  case k7 => k_is
  case k8 => have := R.dp; show A.depth < 1000; omega
  case k9 => exact BindsTo.of_eq rfl
  case c5 => decide
  case kB => exact locs rfl
  case c2 => exact rfl
  case c3 => exact rfl
  case c4 => exact rfl
  intro g' L' h' FG' F' N' B' X' T' D'
  k_steps
theorem even_clear {Q : Value → Shared → Prop} (R : Room 14 A) (B : Below A₀ base [] h₀) (F : Fr h₀ L s.heap m) (X₀ : (hd.heap_39 w.params).In h₀) (N : News h₀ L s.heap news) (T : Top p loose mean mg mb h₀) (XB : (hd.heap_39 w.params).In base) (TB : Top p loose mean mg mb base)
    (hA : A.frames = some [env]) (hf : env.frame = some L) (hke : env.scope.kind = .function)
    {oa d kk : Addr} {ep : Nat} {x y : Value} {u : Tok} (hm : (oa, arrO d #[x, y] ep) ∈ news) (hk : NumIn news kk 5)
    (h : ∀ h' tk, Fr h₀ L h' m → News h₀ L h' news → Q (.bool true) { s with heap := h', toks := tk }) :
    wpAny (model PG w) A (call (.ref 363) [.ref 52, .ref kk, .int 4 u, .ref oa] []) Q E s := by
  refine wpAny_call ?_
  refine' enter0 B F X₀ N T hA hf hke ?k6 ?k7 ?k8 ?k9 ?kB ?_ ?c2 ?c3 ?c4 ?c5
  case k6 => k_is
  case k7 => k_is
  case k8 => have := R.dp; show A.depth < 1000; omega
  case k9 => exact BindsTo.of_eq rfl
  case c5 => decide
  case kB => exact locs rfl
  case c2 => exact rfl
  case c3 => exact rfl
  case c4 => exact rfl
  intro g' L' h' FG' F' N' B' X' T' D'
  k_steps
end
end Mine
end
section
open PySem PySem.W PySem.W.X PyProof.Rows
set_option maxRecDepth 100000
set_option maxHeartbeats 4000000
namespace Mine
section
variable {prog : Program} {w : World} {A : Around} {E : Value → Shared → Prop} {s : Shared} {env : Env} {h₀ : Heap} {x : Str} {body : List Stmt} {Q : Flow → Shared → Prop}
/-- a for over range(n) with an invariant about the frame and a part of the ledger that may grow -/
theorem range_invG {r : Addr} {b₀ : Int} {t₀ u₀ v₀ : Tok} {n : Nat} {m₀ : Str → Option Value} {news : List (Addr × Obj)} (J : Nat → (Str → Option Value) → List (Addr × Obj) → Prop)
    (hh : A.handled = none) (hr : IsRange s.heap r 0 b₀ 1 t₀ u₀ v₀) (hsmall : Builtin.Range.small 0 b₀ 1 = true) (hn : Builtin.Range.rangeSize 0 b₀ 1 = (n : Int)) (F : Fr h₀ env.locals s.heap m₀) (N : News h₀ env.locals s.heap news) (hj : J 0 m₀ news)
    (turn : ∀ (i : Nat) t m₁ news₁ h tk own, i < n → OwnOff own (news₁.map (·.1)) → J i m₁ news₁ → Fr h₀ env.locals h (fun y => if y = x then some (.int (i : Int) t) else m₁ y) → News h₀ env.locals h (news₁ ++ own) →
      wpAny (model prog w) A (execs body env) (InvPostG h₀ env.locals (J (i + 1)) own { s with heap := h, toks := tk } Q) E { s with heap := h, toks := tk })
    (done : ∀ m₁ news₁ h tk, J n m₁ news₁ → Fr h₀ env.locals h m₁ → News h₀ env.locals h news₁ → Q .next { s with heap := h, toks := tk }) :
    wpAny (model prog w) A (pyIter (.ref r)) (fun it s₂ => LoopAtV prog w A h₀ env x body Q E it s₂) E s := by
  refine wpAny_pyIter_range hr hsmall ?_
  have W : Walks prog w A s.heap.objs.size [s.heap.objs.size] [s.heap.objs.size] n (fun i v => i < n ∧ ∃ t, v = .int (0 + i * 1) t)
      (fun i h => IsRangeIter h s.heap.objs.size (0 + (i : Nat) * 1) ((n : Int) - (i : Nat)) 1) := (Walks.range hh _ 0 1 n).bound
  refine ⟨_, _, _, n, _, _, m₀, news, J, rfl, W, ?_, ?_, ?_, (by show IsRangeIter _ _ _ _ _; rw [hn]; simpa using Heap.get?_push_size _ rfl), F.push _, (fun p hp => ⟨Heap.get?_push_of_some _ (N p hp).1, (N p hp).2⟩), hj, ?_, ?_⟩
  · intro hm
    exact absurd F.ns.lt ((List.mem_singleton.mp hm) ▸ Nat.lt_irrefl _)
  · intro b hb
    rw [List.mem_singleton.mp hb]
    exact next_is_new F
  · intro p hp hI
    exact absurd (Heap.lt_size (N p hp).1) ((List.mem_singleton.mp hI) ▸ Nat.lt_irrefl _)
  · rintro i v m₁ news₁ s₁ own ⟨hh', tk', rfl⟩ hin ⟨_, t, hv⟩ hJ hoff hown _ hfp hst F₁ N₁
    have hI0 : h₀.get? s.heap.objs.size = none := next_is_new F
    have hoI : ∃ oI, hh'.get? s.heap.objs.size = some oI := ⟨_, hst⟩
    obtain ⟨oI, hoI⟩ := hoI
    have hIown : (s.heap.objs.size, oI) ∈ own := hfp _ (List.mem_singleton.mpr rfl) hI0 _ hoI
    have hsep : OwnOff own (news₁.map (·.1)) := by
      intro p hp b hb e
      obtain ⟨q, hq, rfl⟩ := List.mem_map.mp hb
      have h1 := List.mem_singleton.mp (hown p hp)
      exact hoff q hq (List.mem_singleton.mpr (e ▸ h1))
    have hv' : v = .int (i : Int) t := by rw [hv]; congr 1; omega
    subst hv'
    have N₂ : News h₀ env.locals hh' (news₁ ++ own) := fun p hp => N₁ p ((List.mem_append.mp hp).elim (fun h => List.mem_append.mpr (.inr h)) fun h => List.mem_append.mpr (.inl h))
    refine wpAny_mono (turn i t m₁ news₁ hh' tk' own hin hsep hJ F₁ N₂) (fun f s₂ p => ?_) fun _ _ e => e
    have fin : InvEndG h₀ env.locals (J (i + 1)) own { s with heap := hh', toks := tk' } s₂ → LoopStepU h₀ env.locals [s.heap.objs.size] own (J (i + 1)) { s with heap := hh', toks := tk' } .next s₂ := by
      rintro ⟨h', tk, m', news', nx, e, F', N', hn, ho, ha, hm⟩
      refine ⟨rfl, h', tk, m', nx, e, F', fun p hp => N' p ((List.mem_append.mp hp).elim (ho p) (hn p)), fun p hp hq => ?_, hm⟩
      exact ha _ hIown p.1 (List.mem_map.mpr ⟨p, hp, rfl⟩) (List.mem_singleton.mp hq).symm
    cases f with
    | ret v => exact .ret p
    | brk => exact .brk p
    | next => exact .next (fin p)
    | cont => exact .cont (fin p)
  · rintro h' tk m' news' F' N' _ hJ
    exact done m' news' h' tk hJ F' N'
end
theorem intsAre_of : ∀ {vs : List Value} {ns : List Int}, vs.length = ns.length → (∀ (j : Nat) (u : Value), vs[j]? = some u → ∃ k t, ns[j]? = some k ∧ u = .int k t) → IntsAre vs ns
  | [], [], _, _ => .nil
  | v :: vs, n :: ns, h, q => by
    obtain ⟨k, t, e1, e2⟩ := q 0 v rfl
    cases Option.some.inj e1
    subst e2
    exact .cons _ _ (intsAre_of (by simpa using h) fun j u hu => q (j + 1) u (by simpa using hu))
def TabIn (w : World) (news : List (Addr × Obj)) (tab : Addr) (c : List (Int × Int)) : Prop := (tab == sysModules) = false ∧ ∃ o kvs, (tab, o) ∈ news ∧ o.IsDictOf (PySem.intKind PG w) kvs ∧ PyProof.V.FlatPairs PyData.int kvs (kdfD c)
theorem kdfD_len (c : List (Int × Int)) : (kdfD c).length = c.length := by simp [kdfD]
section
variable {w : World} {A : Around} {E : Value → Shared → Prop} {s : Shared} {h₀ : Heap} {L tab : Addr} {m : Str → Option Value} {news : List (Addr × Obj)} {c : List (Int × Int)} {Q : Value → Shared → Prop}
theorem TabIn.at {h : Heap} (T : TabIn w news tab c) (N : News h₀ L h news) : IntTab PG w h tab (kdfD c) := by
  obtain ⟨lo, o, kvs, hm, hd, hf⟩ := T
  exact TabAt.ofNews N hm lo hd hf
theorem TabIn.more {news' : List (Addr × Obj)} (T : TabIn w news tab c) (h : ∀ q ∈ news, q ∈ news') : TabIn w news' tab c := by
  obtain ⟨lo, o, kvs, hm, hd, hf⟩ := T
  exact ⟨lo, o, kvs, h _ hm, hd, hf⟩
theorem sorted_K {ks : List Int} (hh : A.handled = none) (F : Fr h₀ L s.heap m) (N : News h₀ L s.heap news) (T : TabIn w news tab c) (hc : c.length < 64) (hp : (c.map (·.1)).Perm ks) (hs : ks.Pairwise (· < ·))
    (h : ∀ B vs n h' tk, Fr h₀ L h' m → News h₀ L h' ((B, listOf vs.toArray n) :: news) → (∀ q ∈ news, q.1 < B) → IntsAre vs ks → Q (.ref B) { s with heap := h', toks := tk }) :
    wpAny (model PG w) A (call (.builtin "sorted") [.ref tab]) Q E s := by
  obtain ⟨lo, kvs, hD, hf⟩ := T.at N
  obtain ⟨ep, hat⟩ := hD.dictAt
  have hfl := hf.length
  rw [kdfD_len] at hfl
  refine kdu_sorted (kdl_dict (knd := PySem.intKind PG w) (kvs := kvs) (ep := ep) lo) hh F N hat (kdl_size (by omega)) fun B h' tk vs F' N' l1 hl hv => ?_
  have hI : IntsAre vs (c.map (·.1)) := by
    refine intsAre_of (by rw [List.length_map]; omega) fun j u hu => ?_
    obtain ⟨k, x, hx, hk⟩ := hv j u hu
    obtain ⟨dv, hd, _⟩ := hf.at hx
    obtain ⟨t, rfl⟩ := PyProof.V.Flat.int_inv (kdl_flat_int hk)
    refine ⟨k, t, ?_, rfl⟩
    unfold kdfD at hd
    rw [List.getElem?_map] at hd ⊢
    cases q : c[j]? with
    | none => rw [q] at hd; cases hd
    | some y =>
      rw [q] at hd
      have := Option.some.inj hd
      have := congrArg Prod.fst this
      have := PyData.int.inj this
      show some y.1 = some k
      rw [this]
  have z := N' (B, listOf vs.toArray 0) (.head _)
  refine wpAny_call_entry PyProof.Rows.slot_list_sort ⟨_, z.1, rfl⟩ PyProof.Rows.entry_list_sort (list_sort_tree (s := { s with heap := h', toks := tk }) (n := 0) (vs := vs) z.1 hI (by omega) fun out ns' hI' hp' hP => ⟨.none, rfl, ?_⟩) (PyProof.Rows.args_list_sort _)
  have hns : ns' = ks := lks_uniq (hp'.trans hp) hP (hs.imp fun h => Int.le_of_lt h)
  subst hns
  obtain ⟨e, hat⟩ := sortedHeap_at (out := out) z.1
  have kp : ∀ b o, b ≠ B → h'.get? b = some o → (sortedHeap h' B vs out).get? b = some o := fun b o hb q => (sortedHeap_old hb (Heap.lt_size q)).trans q
  refine h B out.toList e _ _ (fr_but F' N' (.head _) kp) ?_ l1 hI'
  have N₂ := news_but (o' := seqObj "list" out e) N' (.head fun p hp => Nat.ne_of_lt (l1 p hp)) kp hat
  exact N₂
theorem keysSub_K {value slice : Expr} {B : Addr} {vs : List Value} {n : Nat} {ks : List Int} {i z : Int} {j : Nat} {u : Tok} (N : News h₀ L s.heap news) (hB : (B, listOf vs.toArray n) ∈ news) (hI : IntsAre vs ks) (hi : i = (j : Int)) (hz : ks[j]? = some z) (hsz : ks.length ≤ 400)
    (h : ∀ t, Q (.int z t) s)
    (hs : subscripted slice false (.ref B) (.int i u) = operate [.ref B, .int i u] (getItem (.ref B) (.int i u)) := by with_unfolding_all rfl) (hg : ∀ r, letTemporaryGo value (.ref B) r = pure () := by intro _; with_unfolding_all rfl) :
    wpAny (model PG w) A (subscriptTail value slice (.ref B) (.int i u)) Q E s := by
  have hl := (List.getElem?_eq_some_iff.mp hz).1
  refine item_list_ints (News.isList N hB) hI (by omega) (by omega) (by omega) (fun t => ?_) hs hg
  have e : ks.getD i.toNat 0 = z := by
    rw [show i.toNat = j by omega, List.getD_eq_getElem?_getD, hz]; rfl
  rw [e]
  exact h t
theorem keysLen_K {B : Addr} {vs : List Value} {n : Nat} {ks : List Int} (N : News h₀ L s.heap news) (hB : (B, listOf vs.toArray n) ∈ news) (hI : IntsAre vs ks) (hsz : ks.length ≤ 400) (h : Q (.int (ks.length : Int) (s.toks + 1)) { s with toks := s.toks + 1 + 1 }) :
    wpAny (model PG w) A (call (.builtin "len") [.ref B]) Q E s := by
  have e := hI.sizeZ
  refine len_list (News.isList N hB) (by omega) ?_
  rw [e]; exact h
theorem tabItem_K {value slice : Expr} {k n : Int} {tk : Tok} (N : News h₀ L s.heap news) (T : TabIn w news tab c) (hk : kdfHas c k = true) (hn : kdfLook c k 0 = n) (h : ∀ t, Q (.int n t) { s with toks := s.toks + 1 })
    (hs : subscripted slice false (.ref tab) (.int k tk) = operate [.ref tab, .int k tk] (getItem (.ref tab) (.int k tk)) := by with_unfolding_all rfl) (hg : ∀ r, letTemporaryGo value (.ref tab) r = pure () := by intro _; with_unfolding_all rfl) :
    wpAny (model PG w) A (subscriptTail value slice (.ref tab) (.int k tk)) Q E s := by
  refine kdf_item (T.at N) hk (fun t => ?_) hs hg
  rw [hn]; exact h t
/-- an entry just made and one of the row: unlike or alike -/
theorem neEnt_K {H : Int} {e1 e2 : Addr} {n1 n2 : Int} (R : Room 1 A) (F : Fr h₀ L s.heap m) (X₀ : (hd.heap_39 w.params).In h₀) (N : News h₀ L s.heap news) {d2 ka va d3 d4 : Addr} {t3 t4 : Tok} {old : List (Addr × Obj)} (ho : EntIn H old e1 n1)
    (h2 : (e2, entO d2 H ka va) ∈ news) (h3 : (ka, nameO d3 t3) ∈ news) (h4 : (va, numO d4 n2 t4) ∈ news) (o1 : ∀ q ∈ old, q.1 ≠ ka) (o2 : ∀ q ∈ old, q.1 ≠ va) (hon : ∀ q ∈ old, q ∈ news)
    (h : ∀ h' tk, Fr h₀ L h' m → News h₀ L h' news → Q (.bool (decide (n1 ≠ n2))) { s with heap := h', toks := tk }) :
    wpAny (model PG w) A (compareOp .NotEq (.ref e1) (.ref e2)) Q E s := by
  obtain ⟨d1, kb, vb, d5, t5, d6, t6, a1, a2, a3⟩ := ho
  exact ent_ne R.ok (by have := R.un; omega) (X₀.keeps F.keep) (N _ (hon _ a1)).1 (N _ h2).1 (N _ (hon _ a2)).1 (N _ h3).1 (N _ (hon _ a3)).1 (N _ h4).1 (fun z => o1 _ a2 z.symm) (o2 _ a3) fun h' tk kp => h h' tk (fr_keep F kp) (news_keep N kp)
end
end Mine
end
section
open PySem PySem.W PySem.W.X PyProof.Rows
set_option maxRecDepth 100000
set_option maxHeartbeats 4000000
namespace Mine
local macro_rules | `(tactic| walk_at "never S20 0") => `(tactic| fail "never")
local macro_rules | `(tactic| walk_at "never S20 1") => `(tactic| fail "never")
local macro_rules | `(tactic| walk_at "never S20 2") => `(tactic| fail "never")
local macro_rules | `(tactic| walk_at "never S20 3") => `(tactic| fail "never")
local macro_rules | `(tactic| walk_at "never S20 4") => `(tactic| fail "never")
local macro_rules | `(tactic| walk_at "never S20 5") => `(tactic| fail "never")
local macro_rules | `(tactic| walk_at "never S20 6") => `(tactic| fail "never")
local macro_rules | `(tactic| walk_at "never S20 7") => `(tactic| fail "never")
local macro_rules | `(tactic| walk_at "never S20 8") => `(tactic| fail "never")
local macro_rules | `(tactic| walk_at "never S20 9") => `(tactic| fail "never")
local macro_rules | `(tactic| walk_at "never S20 10") => `(tactic| fail "never")
local macro_rules | `(tactic| walk_at "never S20 11") => `(tactic| fail "never")
local macro_rules | `(tactic| walk_at "never S20 12") => `(tactic| fail "never")
local macro_rules | `(tactic| walk_at "never S20 13") => `(tactic| fail "never")
local macro_rules | `(tactic| walk_at "never S20 14") => `(tactic| fail "never")
local macro_rules | `(tactic| walk_at "never S20 15") => `(tactic| fail "never")
local macro_rules | `(tactic| walk_at "never S20 16") => `(tactic| fail "never")
local macro_rules | `(tactic| walk_at "never S20 17") => `(tactic| fail "never")
local macro_rules | `(tactic| walk_at "never S20 18") => `(tactic| fail "never")
local macro_rules | `(tactic| walk_at "never S20 19") => `(tactic| fail "never")
local macro_rules | `(tactic| walk_at "never S20 20") => `(tactic| fail "never")
local macro_rules | `(tactic| walk_at "never S20 21") => `(tactic| fail "never")
local macro_rules | `(tactic| walk_at "never S20 22") => `(tactic| fail "never")
local macro_rules | `(tactic| walk_at "never S20 23") => `(tactic| fail "never")
local macro_rules | `(tactic| walk_at "never S20 24") => `(tactic| fail "never")
local macro_rules | `(tactic| walk_at "never S20 25") => `(tactic| fail "never")
local macro_rules | `(tactic| walk_at "never S20 26") => `(tactic| fail "never")
local macro_rules | `(tactic| walk_at "never S20 27") => `(tactic| fail "never")
local macro_rules | `(tactic| walk_at "never S20 28") => `(tactic| fail "never")
local macro_rules | `(tactic| walk_at "never S20 29") => `(tactic| fail "never")
theorem fill20 : hd.heap_39 = hd.heap_39 ∧ PySem.Challenge.rw_ee5012_01 = PySem.Challenge.rw_ee5012_01 := by
  k_fill
  exact ⟨rfl, rfl⟩
/-- the row is that of the table -/
structure RowOf (rs : List Cell) (c : List (Int × Int)) : Prop where
  asc : Asc rs
  perm : (c.map (·.1)).Perm (rs.map (·.k))
  look : ∀ x ∈ rs, kdfHas c x.k = true ∧ kdfLook c x.k 0 = x.n
theorem RowOf.strict {rs : List Cell} {c : List (Int × Int)} (h : RowOf rs c) : (rs.map (·.k)).Pairwise (· < ·) := List.pairwise_map.mpr h.asc
theorem RowOf.len {rs : List Cell} {c : List (Int × Int)} (h : RowOf rs c) : c.length = rs.length := by
  have := h.perm.length_eq
  simpa using this
/-- what holds at each turn of the row's check -/
def ChkJ (N₀ : List (Addr × Obj)) (m₀ : Str → Option Value) (_i : Nat) (m₁ : Str → Option Value) (news₁ : List (Addr × Obj)) : Prop := news₁ = N₀ ∧ ∃ u, m₁ = fun y => if y = Str.ofString "k" then u else m₀ y
theorem chk_start (N₀ : List (Addr × Obj)) (m₀ : Str → Option Value) : ChkJ N₀ m₀ 0 m₀ N₀ := ⟨rfl, m₀ (Str.ofString "k"), by
  funext y
  by_cases e : y = Str.ofString "k"
  · subst e; rw [if_pos rfl]
  · rw [if_neg e]⟩
theorem chk_turn {H : Int} {w : World} {N₀ news news₁ own : List (Addr × Obj)} {na d tab B : Addr} {ep n : Nat} {vs : List Value} {rs : List Cell} {c : List (Int × Int)} {m₀ m₁ : Str → Option Value} {i : Nat} (hJ : ChkJ N₀ m₀ i m₁ news₁) (hi : i < rs.length)
    (hsub : ∀ q ∈ news, q ∈ N₀) (hB : (B, listOf vs.toArray n) ∈ N₀) (hm : (na, arrO d (vals rs).toArray ep) ∈ news) (hr : RowIn H news rs) (T : TabIn w news tab c) (ho : RowOf rs c) :
    news₁ = N₀ ∧ (∃ u, m₁ = fun y => if y = Str.ofString "k" then u else m₀ y) ∧ (B, listOf vs.toArray n) ∈ N₀ ++ own ∧ (na, arrO d (vals rs).toArray ep) ∈ N₀ ++ own ∧ TabIn w (N₀ ++ own) tab c ∧
      ∃ x, KeyAt rs (2 * (i : Int)) x ∧ (rs.map (·.k))[i]? = some x.k ∧ kdfHas c x.k = true ∧ kdfLook c x.k 0 = x.n ∧ NumIn (N₀ ++ own) x.ka x.k ∧ EntIn H (N₀ ++ own) x.ea x.n := by
  obtain ⟨e1, hu⟩ := hJ
  have up : ∀ q ∈ news, q ∈ N₀ ++ own := fun q hq => List.mem_append_left _ (hsub q hq)
  have hx : rs[i]? = some rs[i] := by simp [hi]
  have hmem : rs[i] ∈ rs := List.getElem_mem hi
  refine ⟨e1, hu, List.mem_append_left _ hB, up _ hm, T.more up, rs[i], ⟨i, rfl, hx⟩, by rw [List.getElem?_map, hx]; rfl, (ho.look _ hmem).1, (ho.look _ hmem).2, ?_, ?_⟩
  · exact (hr.at hx).1.stay (Stay.of_sub up)
  · exact (hr.at hx).2.stay (Stay.of_sub up)
theorem chk_end {h₀ h' : Heap} {L : Addr} {N₀ own : List (Addr × Obj)} {m₀ : Str → Option Value} {v u : Option Value} {p1 p2 p3 : Addr × Obj} {s₁ : Shared} {tk i : Nat} (F : Fr h₀ L h' (fun y => if y = Str.ofString "k" then v else (if y = Str.ofString "k" then u else m₀ y))) (N : News h₀ L h' (p1 :: p2 :: p3 :: (N₀ ++ own))) (hoff : OwnOff own (N₀.map (·.1))) :
    InvEndG h₀ L (ChkJ N₀ m₀ i) own s₁ { s₁ with heap := h', toks := tk } := by
  refine InvEndG.intro F N ⟨rfl, v, ?_⟩ hoff (fun q hq => .tail _ (.tail _ (.tail _ (List.mem_append_left _ hq)))) (fun q hq => .tail _ (.tail _ (.tail _ (List.mem_append_right _ hq))))
  funext y
  by_cases e : y = Str.ofString "k"
  · rw [if_pos e, if_pos e]
  · rw [if_neg e, if_neg e, if_neg e]
theorem keysLenRow_K {A : Around} {E : Value → Shared → Prop} {s : Shared} {w : World} {h₀ : Heap} {L B : Addr} {vs : List Value} {n : Nat} {rs : List Cell} {news : List (Addr × Obj)} {Q : Value → Shared → Prop} (N : News h₀ L s.heap news) (hB : (B, listOf vs.toArray n) ∈ news) (hI : IntsAre vs (rs.map (·.k))) (hsz : rs.length ≤ 400) (h : Q (.int (rs.length : Int) (s.toks + 1)) { s with toks := s.toks + 1 + 1 }) :
    wpAny (model PG w) A (call (.builtin "len") [.ref B]) Q E s := keysLen_K N hB hI (by rw [List.length_map]; exact hsz) (by rw [List.length_map]; exact h)
theorem range_small {n : Nat} (h : n ≤ 1000) : Builtin.Range.small 0 (n : Int) 1 = true := small_one (by omega) (by omega) (by omega) (by omega)
theorem range_sz (n : Nat) : Builtin.Range.rangeSize 0 (n : Int) 1 = (n : Int) := by rw [rangeSize_one]; split <;> omega
section
variable {A A₀ : Around} {E : Value → Shared → Prop} {s : Shared} {w : World} {base h₀ : Heap} {outer : List Env} {env : Env} {L : Addr} {m : Str → Option Value} {news : List (Addr × Obj)}
  {p : Program} {loose : List Str} {mean : ExcName → Option Value} {mg mb : Str → Option Value}
theorem deep1_hd {n : Nat} {A : Around} {e1 : Env} (R : Room n A) : (A.deeper e1).handled = none := R.hd
local macro_rules | `(tactic| kc_close) => `(tactic| (apply_assumption <;> assumption))
local macro_rules | `(tactic| walk_at "call builtin:sorted") => `(tactic| (k_here; k_dflt (refine' sorted_K (deep1_hd (by assumption)) (by assumption) (by assumption) (by assumption) (by assumption) (RowOf.perm (by assumption)) (RowOf.strict (by assumption)) ?_); intro B' vs' n' h' tk' F' N' l1' hI'; k_sweep))
local macro_rules | `(tactic| walk_at "call builtin:len") => `(tactic| (k_here; k_dflt (first | (refine' rowLen_K (by assumption) (by assumption) (by assumption) (.tail _ (by assumption)) (by assumption) ?_) | (refine' keysLenRow_K (by assumption) (.head _) (by assumption) (by assumption) ?_)); k_sweep))
local macro_rules | `(tactic| walk_at "subscriptTail") => `(tactic| (k_here; k_dflt (first
  | (refine' subKey2_K (by assumption) (by assumption) (by assumption) (by assumption) (by assumption) (by omega) (by assumption) ?_)
  | (refine' subEnt2_K (by assumption) (by assumption) (by assumption) (by assumption) (by assumption) (by omega) (by assumption) ?_)
  | (refine' keysSub_K (by assumption) (by assumption) (by assumption) (by rfl) (by assumption) (by rw [List.length_map]; assumption) ?_; intro t')
  | (refine' tabItem_K (by assumption) (by assumption) (by assumption) (by assumption) ?_; intro t')); k_sweep))
local macro_rules | `(tactic| walk_at "subscriptTail Name Name ref int") => `(tactic| (k_here; k_dflt (refine' keysSub_K (by assumption) (by assumption) (by assumption) (by rfl) (by assumption) (by rw [List.length_map]; assumption) ?_; intro t'); k_sweep))
local macro_rules | `(tactic| walk_at "compareOp NotEq ref") => `(tactic| (k_here; k_dflt (first
  | (refine' neNI_K (Room.ok (n := 0) (Room.deeper (Room.less (by assumption) (by decide)))) (by assumption) (by assumption) (by assumption) (by assumption) ?_; intro tk')
  | (refine' neEnt_K (Room.deeper (Room.less (by assumption) (by decide))) (by assumption) (by assumption) (by assumption) (by assumption) (.tail _ (.tail _ (.head _))) (.head _) (.tail _ (.head _)) (by assumption) (by assumption) (fun q hq => .tail _ (.tail _ (.tail _ hq))) ?_; intro h' tk' F' N')); k_sweep))
local macro_rules | `(tactic| walk_at "call ref") => `(tactic| (k_here; k_dflt (refine' fn_entry (Room.deeper (Room.less (by assumption) (by decide))) (by assumption) (by assumption) (by assumption) (by assumption) (by assumption) (deeper_frames (by assumption)) (by rfl) (by rfl) ?_); intro a' d' ka' va' d1' t1' d2' t2' h' tk' F' N' o1' o2' o3'; k_sweep))
local macro_rules | `(tactic| walk_at "pyIter ref") => `(tactic| (k_here; (rename Fr _ _ _ _ => lF'); (rename News _ _ _ _ => lN'); (rename RowIn _ _ _ => lR'); (rename TabIn _ _ _ _ => lT'); (rename RowOf _ _ => lO'); (rename (_, arrO _ _ _) ∈ _ => lM'); k_dflt (refine' range_invG (ChkJ _ _) (deep1_hd (by assumption)) (by assumption) (range_small (Nat.le_trans (m := 400) (by assumption) (by decide))) (range_sz _) lF' lN' (chk_start _ _) ?turn ?done; (case' turn => (clear lF' lN'; intro i t m₁ news₁ h tk own hi hoff hJ F₁ N₁; (obtain ⟨e1, ⟨u, e2⟩, hB, hm, hT, x, hk1, hk2, hk3, hk4, hk5, hk6⟩ := chk_turn (own := own) hJ hi (fun q hq => .tail _ hq) (.head _) lM' lR' lT' lO'); subst e1; subst e2)); (case' done => (clear lF' lN'; intro m₁ news₁ h tk hJ F₁ N₁; (obtain ⟨e1, u, e2⟩ := hJ); subst e1; subst e2)))))
local macro_rules | `(tactic| walk_at "InvEndG") => `(tactic| (k_dflt (exact chk_end (by assumption) (by assumption) (by assumption))))
theorem fn_isrow {Q : Value → Shared → Prop} (R : Room 20 A) (B : Below A₀ base outer h₀) (F : Fr h₀ L s.heap m) (X₀ : (hd.heap_39 w.params).In h₀) (N : News h₀ L s.heap news) (T : Top p loose mean mg mb h₀) (hA : A.frames = some (env :: outer)) (hf : env.frame = some L) (hke : env.scope.kind = .function)
    {na d tab : Addr} {ep : Nat} {rs : List Cell} {c : List (Int × Int)} (hm : (na, arrO d (vals rs).toArray ep) ∈ news) (hr : RowIn (entHash w.params) news rs) (ht : TabIn w news tab c) (ho : RowOf rs c) (hz : rs.length ≤ 400) (hc64 : c.length < 64)
    (h : ∀ h' tk, Fr h₀ L h' m → News h₀ L h' news → Q (.bool true) { s with heap := h', toks := tk }) :
    wpAny (model PG w) A (call (.ref 356) [.ref na, .ref tab] []) Q E s := by
  have hN : ∀ q ∈ news, q ∈ news := fun _ h => h
  refine wpAny_call ?_
  refine' code_def B F X₀ N T hA hf hke ?k6 ?k7 ?k8 ?k9 ?kB ?_ ?c2 ?c3 ?c4 ?c5
  case k6 => k_is
  case k7 => k_is
  case k8 => have := R.dp; show A.depth < 1000; omega
  case k9 => exact BindsTo.of_eq rfl
  case c5 => decide
  case kB => exact locs rfl
  case c2 => exact rfl
  case c3 => exact rfl
  case c4 => exact rfl
  intro g' L' h' FG' F' N' B' X' T'
  k_steps
  all_goals first
    | (exfalso; omega)
    | exact h _ _ (by assumption) (fun q hq => ‹News _ _ _ (_ :: news)› q (.tail _ hq))
end
end Mine
end
section
open PySem PySem.W PySem.W.X PyProof.Rows
set_option maxRecDepth 100000
set_option maxHeartbeats 4000000
namespace Mine
theorem fill20b : hd.heap_39 = hd.heap_39 ∧ PySem.Challenge.rw_ee5012_01 = PySem.Challenge.rw_ee5012_01 := by
  k_fill
  exact ⟨rfl, rfl⟩
section
variable {A A₀ : Around} {E : Value → Shared → Prop} {s : Shared} {w : World} {base h₀ : Heap} {outer : List Env} {env : Env} {L : Addr} {m : Str → Option Value} {news : List (Addr × Obj)}
  {p : Program} {loose : List Str} {mean : ExcName → Option Value} {mg mb : Str → Option Value}
local macro_rules | `(tactic| kc_close) => `(tactic| (apply_assumption <;> assumption))
def BagObj (o : Obj) (bv : Int) : Prop := o.cls = .type "list" ∧ ∃ t n, o.data = .seq #[.int bv t] n
theorem BagObj.list {h : Heap} {bag : Addr} {o : Obj} {bv : Int} (N : News h₀ L h news) (hB : (bag, o) ∈ news) (ho : BagObj o bv) : ∃ t, h.IsList bag #[.int bv t] := by
  obtain ⟨h1, t, n, h2⟩ := ho
  exact ⟨t, o, (N _ hB).1, h1, n, h2⟩
theorem bag0_K {value slice : Expr} {bag : Addr} {o : Obj} {bv : Int} {u : Tok} {Q : Value → Shared → Prop} (N : News h₀ L s.heap news) (hB : (bag, o) ∈ news) (ho : BagObj o bv) (h : ∀ t, Q (.int bv t) s)
    (hs : subscripted slice false (.ref bag) (.int 0 u) = operate [.ref bag, .int 0 u] (getItem (.ref bag) (.int 0 u)) := by with_unfolding_all rfl) (hg : ∀ r, letTemporaryGo value (.ref bag) r = pure () := by intro _; with_unfolding_all rfl) :
    wpAny (model PG w) A (subscriptTail value slice (.ref bag) (.int 0 u)) Q E s := by
  obtain ⟨t, hl⟩ := ho.list N hB
  exact item_list hl (by decide) (by decide) rfl (h t) hs hg
theorem bagSet_K {bag : Addr} {o : Obj} {bv bv' : Int} {tb' u : Tok} {g : Obj → List (Addr × Obj)} {Q : Unit → Shared → Prop} (F : Fr h₀ L s.heap m) (N : News h₀ L s.heap news) (U : UpdF bag o news g) (ho : BagObj o bv)
    (h : ∀ o' h', BagObj o' bv' → Fr h₀ L h' m → News h₀ L h' (g o') → Q () { s with heap := h' }) :
    wpAny (model PG w) A (setItem (.ref bag) (.int 0 u) (.int bv' tb')) Q E s := by
  have hB := updF_mem U
  obtain ⟨t, hl⟩ := ho.list N hB
  refine wpAny_setItem_list hl (by decide) (by decide) (by show (0 : Int) < 1; decide) fun h' hl' hs => ?_
  have kp : ∀ c o, c ≠ bag → s.heap.get? c = some o → h'.get? c = some o := fun c o hc q => (hs.2 c hc).trans q
  obtain ⟨o', a1, a2, n, a3⟩ := hl'
  exact h o' h' ⟨a2, tb', n, a3⟩ (fr_but F N hB kp) (news_updF N U kp a1)
theorem fmod_lo (a : Int) {k : Int} (hk : 0 < k) : 0 ≤ a.fmod k := Int.fmod_nonneg_of_pos a hk
theorem fmod_hi (a : Int) {k : Int} (hk : 0 < k) : a.fmod k < k := Int.fmod_lt_of_pos a hk
theorem fdiv_lo {a k : Int} (ha : 0 ≤ a) (hk : 0 < k) : 0 ≤ a.fdiv k := Int.fdiv_nonneg ha (Int.le_of_lt hk)
local macro_rules | `(tactic| walk_at "subscriptTail") => `(tactic| (k_here; k_dflt (refine' bag0_K (by assumption) (by assumption) (by assumption) ?_); intro t'; k_sweep))
local macro_rules | `(tactic| walk_at "setItem ref int") => `(tactic| (k_here; k_dflt (refine' bagSet_K (by assumption) (by assumption) (by assumption) (by assumption) ?_); intro o' h' hb' F' N'; k_sweep))
theorem noPylong_k {a k : Int} (h1 : 0 < k) (h2 : k ≤ 50) : Builtin.divisionGoesByPylong a k = false := PyProof.noPylong_small (by omega)
local macro_rules | `(tactic| walk_at "binaryOp FloorDiv int int") => `(tactic| (k_here; k_dflt (refine' floordiv_int (by omega) ?_ (.inl (by assumption))); k_sweep))
theorem fn_draw {Q : Value → Shared → Prop} (R : Room 10 A) (B : Below A₀ base outer h₀) (F : Fr h₀ L s.heap m) (X₀ : (hd.heap_39 w.params).In h₀) (N : News h₀ L s.heap news) (T : Top p loose mean mg mb h₀) (hA : A.frames = some (env :: outer)) (hf : env.frame = some L) (hke : env.scope.kind = .function)
    {bag : Addr} {bv k : Int} {o : Obj} {u : Tok} {g : Obj → List (Addr × Obj)} (U : UpdF bag o news g) (ho : BagObj o bv) (hb : 0 ≤ bv) (hk : 0 < k) (hk2 : k ≤ 50)
    (h : ∀ z t bv' o' h' tk, 0 ≤ z → z < k → 0 ≤ bv' → BagObj o' bv' → Fr h₀ L h' m → News h₀ L h' (g o') → Q (.int z t) { s with heap := h', toks := tk }) :
    wpAny (model PG w) A (call (.ref 342) [.ref bag, .int k u] []) Q E s := by
  have hm : (bag, o) ∈ news := updF_mem U
  have hpy : Builtin.divisionGoesByPylong bv k = false := noPylong_k hk hk2
  refine wpAny_call ?_
  refine' code_def B F X₀ N T hA hf hke ?k6 ?k7 ?k8 ?k9 ?kB ?_ ?c2 ?c3 ?c4 ?c5
  case k6 => k_is
  case k7 => k_is
  case k8 => have := R.dp; show A.depth < 1000; omega
  case k9 => exact BindsTo.of_eq rfl
  case c5 => decide
  case kB => exact locs rfl
  case c2 => exact rfl
  case c3 => exact rfl
  case c4 => exact rfl
  intro g' L' h' FG' F' N' B' X' T'
  k_steps
  all_goals first
    | exact h _ _ _ _ _ _ (fmod_lo _ hk) (fmod_hi _ hk) (fdiv_lo hb hk) (by assumption) (by assumption) (by assumption)
end
end Mine
end
section
open PySem PySem.W PySem.W.X PyProof.Rows
set_option maxRecDepth 100000
set_option maxHeartbeats 4000000
namespace Mine
/-- what the table tells of a key -/
def tfind (c : List (Int × Int)) (x : Int) : Option Int := (c.find? fun p => decide (p.1 = x)).map (·.2)
theorem tfind_nil (x : Int) : tfind [] x = none := rfl
theorem tfind_cons (p : Int × Int) (c : List (Int × Int)) (x : Int) : tfind (p :: c) x = if p.1 = x then some p.2 else tfind c x := by
  unfold tfind
  rw [List.find?_cons]
  by_cases h : p.1 = x
  · simp [h]
  · simp [h]
theorem tfind_app (a b : List (Int × Int)) (x : Int) : tfind (a ++ b) x = (tfind a x).or (tfind b x) := by
  unfold tfind
  rw [List.find?_append]
  cases List.find? (fun p => decide (p.1 = x)) a <;> simp
theorem tfind_none {c : List (Int × Int)} {x : Int} : tfind c x = none ↔ x ∉ c.map (·.1) := by
  induction c with
  | nil => simp [tfind_nil]
  | cons p c ih =>
    rw [tfind_cons]
    by_cases h : p.1 = x
    · simp [h]
    · rw [if_neg h, ih]
      simp only [List.map_cons, List.mem_cons, not_or]
      exact ⟨fun q => ⟨fun z => h z.symm, q⟩, fun q => q.2⟩
theorem has_of {c : List (Int × Int)} {x n : Int} (h : tfind c x = some n) : kdfHas c x = true ∧ kdfLook c x 0 = n := by
  constructor
  · unfold kdfHas
    unfold tfind at h
    cases q : List.find? (fun p => decide (p.1 = x)) c with
    | none => rw [q] at h; cases h
    | some p => exact List.any_eq_true.mpr ⟨p, List.mem_of_find?_eq_some q, List.find?_some (p := fun p : Int × Int => decide (p.1 = x)) q⟩
  · unfold kdfLook
    show (tfind c x).getD 0 = n
    rw [h]; rfl
theorem has_iff {c : List (Int × Int)} {x : Int} : kdfHas c x = (tfind c x).isSome := by
  induction c with
  | nil => rfl
  | cons p c ih =>
    rw [tfind_cons]
    unfold kdfHas at ih ⊢
    rw [List.any_cons, ih]
    by_cases h : p.1 = x <;> simp [h]
theorem tfind_map {c : List (Int × Int)} {k v x : Int} : tfind (c.map fun p => if decide (p.1 = k) then (p.1, v) else p) x = if x = k then (if kdfHas c k then some v else none) else tfind c x := by
  induction c with
  | nil => simp [tfind_nil, kdfHas]
  | cons p c ih =>
    rw [List.map_cons, tfind_cons, ih, tfind_cons]
    have hh : kdfHas (p :: c) k = (decide (p.1 = k) || kdfHas c k) := by unfold kdfHas; rw [List.any_cons]
    rw [hh]
    by_cases h : p.1 = k
    · by_cases h2 : x = k
      · simp [h, h2]
      · have : ¬ k = x := fun z => h2 z.symm
        simp [h, h2, this]
    · by_cases h2 : x = k
      · subst h2; simp [h]
      · simp [h, h2]
theorem tfind_put {c : List (Int × Int)} {k v x : Int} : tfind (kdfPut c k v) x = if x = k then some v else tfind c x := by
  unfold kdfPut
  by_cases h : (c.any fun p => decide (p.1 = k)) = true
  · rw [if_pos h, tfind_map]
    have : kdfHas c k = true := h
    simp [this]
  · rw [if_neg h, tfind_app, tfind_cons, tfind_nil]
    have h' : tfind c k = none := by
      have := has_iff (c := c) (x := k)
      unfold kdfHas at this
      rw [Bool.not_eq_true] at h
      rw [h] at this
      cases q : tfind c k with
      | none => rfl
      | some _ => rw [q] at this; cases this
    by_cases h2 : x = k
    · subst h2; simp [h']
    · have : ¬ k = x := fun z => h2 z.symm
      simp [h2, this]
theorem put_nodup {c : List (Int × Int)} {k v : Int} (h : (c.map (·.1)).Nodup) : ((kdfPut c k v).map (·.1)).Nodup := by
  unfold kdfPut
  split
  · rename_i q
    have : (c.map fun p => if decide (p.1 = k) then (p.1, v) else p).map (·.1) = c.map (·.1) := by
      rw [List.map_map]
      apply List.map_congr_left
      intro p _
      by_cases e : p.1 = k <;> simp [e]
    rw [this]; exact h
  · rename_i q
    rw [List.map_append]
    refine List.nodup_append.mpr ⟨h, by simp, ?_⟩
    intro a ha b hb e
    subst e
    simp at hb
    subst hb
    apply q
    obtain ⟨p, hp, e⟩ := List.mem_map.mp ha
    exact List.any_eq_true.mpr ⟨p, hp, by simpa using e⟩
theorem perm_of : ∀ {a b : List Int}, a.Nodup → b.Nodup → (∀ x, x ∈ a ↔ x ∈ b) → a.Perm b
  | [], b, _, _, h => by
    cases b with
    | nil => exact .refl _
    | cons y r => exact absurd ((h y).mpr (.head _)) (fun q => nomatch q)
  | x :: r, b, ha, hb, h => by
    have hx : x ∈ b := (h x).mp (.head _)
    refine List.Perm.trans ?_ (List.perm_cons_erase hx).symm
    refine .cons _ (perm_of (List.nodup_cons.mp ha).2 (hb.erase x) fun y => ?_)
    rw [hb.mem_erase_iff]
    constructor
    · intro hy
      refine ⟨fun z => ?_, (h y).mp (.tail _ hy)⟩
      subst z
      exact (List.nodup_cons.mp ha).1 hy
    · rintro ⟨h1, h2⟩
      rcases List.mem_cons.mp ((h y).mpr h2) with rfl | q
      · exact absurd rfl h1
      · exact q
theorem look_isSome {rs : List Cell} {x : Int} : (look rs x).isSome = true ↔ x ∈ rs.map (·.k) := by
  induction rs with
  | nil => simp [look]
  | cons c r ih =>
    rw [look_cons]
    by_cases h : c.k = x
    · simp [h]
    · rw [if_neg h, ih]
      simp only [List.map_cons, List.mem_cons]
      exact ⟨.inr, fun q => q.elim (fun z => absurd z.symm h) id⟩
theorem asc_nodup {rs : List Cell} (h : Asc rs) : (rs.map (·.k)).Nodup := List.nodup_iff_pairwise_ne.mpr ((List.pairwise_map.mpr h).imp fun q => by omega)
theorem rowOf_of {rs : List Cell} {c : List (Int × Int)} (ha : Asc rs) (hn : (c.map (·.1)).Nodup) (h : ∀ x, look rs x = tfind c x) : RowOf rs c := by
  refine ⟨ha, perm_of hn (asc_nodup ha) fun x => ?_, fun x hx => ?_⟩
  · rw [← look_isSome, h x]
    cases q : tfind c x with
    | none => exact ⟨fun z => absurd z (tfind_none.mp q), fun z => nomatch z⟩
    | some n =>
      have : ¬ x ∉ c.map (·.1) := fun z => by rw [tfind_none.mpr z] at q; cases q
      exact ⟨fun _ => rfl, fun _ => Classical.not_not.mp this⟩
  · exact has_of (by rw [← h, look_mem ha hx])
theorem rowOf_nodup {rs : List Cell} {c : List (Int × Int)} (h : RowOf rs c) : (c.map (·.1)).Nodup := h.perm.nodup_iff.mpr (asc_nodup h.asc)
theorem rowOf_tell {rs : List Cell} {c : List (Int × Int)} (h : RowOf rs c) (x : Int) : look rs x = tfind c x := by
  cases q : look rs x with
  | none =>
    symm
    refine tfind_none.mpr fun hx => ?_
    have := look_isSome.mpr (h.perm.mem_iff.mp hx)
    rw [q] at this; cases this
  | some n =>
    obtain ⟨y, hy, rfl, rfl⟩ := look_some q
    have h1 := (h.look y hy)
    cases r : tfind c y.k with
    | none => rw [has_iff, r] at h1; cases h1.1
    | some n' => rw [(has_of r).2] at h1; rw [h1.2]
theorem rowOf_put {rs rs' : List Cell} {c : List (Int × Int)} {k n : Int} (h : RowOf rs c) (ha : Asc rs') (hl : ∀ x, look rs' x = if x = k then some n else look rs x) : RowOf rs' (kdfPut c k n) :=
  rowOf_of ha (put_nodup (rowOf_nodup h)) fun x => by rw [hl, tfind_put, rowOf_tell h]
end Mine
end
section
open PySem PySem.W PySem.W.X PyProof.Rows
set_option maxRecDepth 100000
set_option maxHeartbeats 4000000
namespace Mine
theorem law_room {e : Env} : Room 20 (callerA.deeper e) := ⟨rfl, by show 301 + 1 + 20 ≤ 600; decide, by show 4 + 3 + 10 * 20 ≤ 3000; decide⟩
def AllNe (d : Addr) : List (Addr × Obj) → Prop
  | [] => True
  | p :: r => (@Ne Nat p.1 d) ∧ AllNe d r
theorem allNe_of {d : Addr} : ∀ {l : List (Addr × Obj)}, (∀ p ∈ l, p.1 ≠ d) → AllNe d l
  | [], _ => trivial
  | p :: _, h => ⟨h p (.head _), allNe_of fun q hq => h q (.tail _ hq)⟩
theorem ne_nat {a b : Addr} (h : a ≠ b) : @Ne Nat a b := h
theorem lit_elim {K : Frag} {f : Addr} {x y : Obj} {P : Prop} (h1 : K.lookup f = some x) (h2 : K.lookup f = some y) (h : x = y → P) : P := h (Option.some.inj (h1.symm.trans h2))
/-- the body of the first for of a suite -/
def forOf (s : Stmt) : Option (List Stmt) := match s with
  | .For _ _ b _ _ => some b
  | _ => none
def forBody (l : List Stmt) : List Stmt := (l.findSome? forOf).getD []
abbrev led (tab : Addr) (otab : Obj) (na d : Addr) (rs : List Cell) (ep : Nat) (bag : Addr) (ob : Obj) (L : Addr) (ol ok ot : Obj) (R : List (Addr × Obj)) : List (Addr × Obj) :=
  (tab, otab) :: (na, arrO d (vals rs).toArray ep) :: (d, W.dictOf [] 0) :: (bag, ob) :: (L + 1 + 1 + 1, ol) :: (L + 1 + 1, ok) :: (L + 1, ot) :: R
/-- the seven of the law are seven, and none of them lies in the rest -/
def Apart (tab na d bag L : Addr) (R : List (Addr × Obj)) : Prop :=
  ((@Ne Nat tab na) ∧ (@Ne Nat tab d) ∧ (@Ne Nat tab bag) ∧ (@Ne Nat na d) ∧ (@Ne Nat na bag) ∧ (@Ne Nat d bag) ∧
    (@Ne Nat tab (L + 1 + 1 + 1)) ∧ (@Ne Nat tab (L + 1 + 1)) ∧ (@Ne Nat tab (L + 1)) ∧ (@Ne Nat na (L + 1 + 1 + 1)) ∧ (@Ne Nat na (L + 1 + 1)) ∧ (@Ne Nat na (L + 1)) ∧
    (@Ne Nat d (L + 1 + 1 + 1)) ∧ (@Ne Nat d (L + 1 + 1)) ∧ (@Ne Nat d (L + 1)) ∧ (@Ne Nat bag (L + 1 + 1 + 1)) ∧ (@Ne Nat bag (L + 1 + 1)) ∧ (@Ne Nat bag (L + 1))) ∧
  ∀ q ∈ R, q.1 ≠ tab ∧ q.1 ≠ na ∧ q.1 ≠ d ∧ q.1 ≠ bag ∧ q.1 ≠ L + 1 + 1 + 1 ∧ q.1 ≠ L + 1 + 1 ∧ q.1 ≠ L + 1
structure TurnSt (w : World) (L na d bag tab : Addr) (otab ob ol ok ot : Obj) (kvs : List (Int × Value)) (c : List (Int × Int)) (rs : List Cell) (bv : Int) (n : Nat) (R : List (Addr × Obj)) : Prop where
  lo : (tab == sysModules) = false
  isd : otab.IsDictOf (PySem.intKind PG w) kvs
  fl : PyProof.V.FlatPairs PyData.int kvs (kdfD c)
  bo : BagObj ob bv
  b0 : 0 ≤ bv
  ct : ot.data = .cell (some (.ref tab))
  ck : ∃ v, ok.data = .cell v
  cl : ∃ v, ol.data = .cell v
  row : RowIn (entHash w.params) R rs
  of : RowOf rs c
  keys : ∀ x ∈ rs, 0 ≤ x.k ∧ x.k < 12
  len : rs.length ≤ n
  apart : Apart tab na d bag L R
/-- what a turn of the law leaves -/
def TurnPost (w : World) (h₀ : Heap) (L na d bag : Addr) (n : Nat) (R : List (Addr × Obj)) (s : Shared) (f : Flow) (s' : Shared) : Prop :=
  (f = .next ∨ f = .cont) ∧ ∃ h' tk m' tab otab ob ol ok ot kvs c rs bv ep front, s' = { s with heap := h', toks := tk } ∧ Fr h₀ L h' m' ∧ m' (Str.ofString "bag") = some (.ref bag) ∧ m' (Str.ofString "nums") = some (.ref na) ∧
    News h₀ L h' (led tab otab na d rs ep bag ob L ol ok ot (front ++ R)) ∧ TurnSt w L na d bag tab otab ob ol ok ot kvs c rs bv n (front ++ R) ∧ ∀ q ∈ front, ∀ r ∈ R, r.1 ≠ q.1
/-- one of the row's own objects -/
def RowObj (o : Obj) : Prop := (∃ d k t, o = numO d k t) ∨ (∃ d t, o = nameO d t) ∨ (∃ d H ka va, o = entO d H ka va)
theorem RowIn.strip {H : Int} {a b : List (Addr × Obj)} {rs : List Cell} (h : RowIn H a rs) (st : ∀ q ∈ a, RowObj q.2 → q ∈ b) : RowIn H b rs := by
  intro c hc
  obtain ⟨⟨d, t, h1⟩, ⟨d', na, va, d1, t1, d2, t2, h2, h3, h4⟩⟩ := h c hc
  exact ⟨⟨d, t, st _ h1 (.inl ⟨_, _, _, rfl⟩)⟩, ⟨d', na, va, d1, t1, d2, t2, st _ h2 (.inr (.inr ⟨_, _, _, _, rfl⟩)), st _ h3 (.inr (.inl ⟨_, _, rfl⟩)), st _ h4 (.inl ⟨_, _, _, rfl⟩)⟩⟩
theorem not_cls {o : Obj} {n : String} (h : o.cls = .type n) : ¬ RowObj o := by
  rintro (⟨d, k, t, rfl⟩ | ⟨d, t, rfl⟩ | ⟨d, H, ka, va, rfl⟩) <;> simp at h
theorem not_cell {o : Obj} {v : Option Value} (h : o.data = .cell v) : ¬ RowObj o := by
  rintro (⟨d, k, t, rfl⟩ | ⟨d, t, rfl⟩ | ⟨d, H, ka, va, rfl⟩) <;> simp at h
theorem not_arr {d : Addr} {vs : Array Value} {n : Nat} : ¬ RowObj (arrO d vs n) := by
  rintro (⟨d, k, t, h⟩ | ⟨d, t, h⟩ | ⟨d, H, ka, va, h⟩) <;> (have h1 := congrArg Obj.cls h; simp at h1)
theorem led_strip {w : World} {L na d bag tab : Addr} {otab ob ol ok ot : Obj} {kvs : List (Int × Value)} {bv : Int} {rs rs' : List Cell} {ep : Nat} {R : List (Addr × Obj)} {H : Int} {vt vk vl : Option Value} (isd : otab.IsDictOf (PySem.intKind PG w) kvs) (bo : BagObj ob bv)
    (ct : ot.data = .cell vt) (ck : ok.data = .cell vk) (cl : ol.data = .cell vl) (h : RowIn H (led tab otab na d rs ep bag ob L ol ok ot R) rs') : RowIn H R rs' := by
  refine h.strip fun q hq hr => ?_
  simp only [List.mem_cons] at hq
  rcases hq with rfl | rfl | rfl | rfl | rfl | rfl | rfl | hq
  · obtain ⟨es, ep', h1, _⟩ := isd
    exact absurd hr (not_cls h1.1)
  · exact absurd hr not_arr
  · exact absurd hr (not_cls rfl)
  · exact absurd hr (not_cls bo.1)
  · exact absurd hr (not_cell cl)
  · exact absurd hr (not_cell ck)
  · exact absurd hr (not_cell ct)
  · exact hq
theorem strip4 {w : World} {L na d bag tab : Addr} {otab ob ol ok ot : Obj} {kvs : List (Int × Value)} {bv : Int} {rs rs' : List Cell} {ep : Nat} {R : List (Addr × Obj)} {H : Int} {vt vk vl : Option Value} {p1 p2 p3 p4 : Addr × Obj}
    (h : RowIn H (p1 :: p2 :: p3 :: p4 :: led tab otab na d rs ep bag ob L ol ok ot R) rs') (isd : otab.IsDictOf (PySem.intKind PG w) kvs) (bo : BagObj ob bv)
    (ct : ot.data = .cell vt) (ck : ok.data = .cell vk) (cl : ol.data = .cell vl) : RowIn H (p1 :: p2 :: p3 :: p4 :: R) rs' := by
  refine h.strip fun q hq hr => ?_
  simp only [List.mem_cons] at hq ⊢
  rcases hq with h1 | h1 | h1 | h1 | rfl | rfl | rfl | rfl | rfl | rfl | rfl | hq
  · exact .inl h1
  · exact .inr (.inl h1)
  · exact .inr (.inr (.inl h1))
  · exact .inr (.inr (.inr (.inl h1)))
  · obtain ⟨es, ep', h1, _⟩ := isd
    exact absurd hr (not_cls h1.1)
  · exact absurd hr not_arr
  · exact absurd hr (not_cls rfl)
  · exact absurd hr (not_cls bo.1)
  · exact absurd hr (not_cell cl)
  · exact absurd hr (not_cell ck)
  · exact absurd hr (not_cell ct)
  · exact .inr (.inr (.inr (.inr hq)))
theorem up47 {R : List (Addr × Obj)} {p1 p2 p3 p4 x1 x2 x3 x4 x5 x6 x7 : Addr × Obj} : Stay (p1 :: p2 :: p3 :: p4 :: R) (p1 :: p2 :: p3 :: p4 :: x1 :: x2 :: x3 :: x4 :: x5 :: x6 :: x7 :: R) := by
  intro q hq _
  simp only [List.mem_cons] at hq ⊢
  rcases hq with h | h | h | h | h
  · exact .inl h
  · exact .inr (.inl h)
  · exact .inr (.inr (.inl h))
  · exact .inr (.inr (.inr (.inl h)))
  · exact .inr (.inr (.inr (.inr (.inr (.inr (.inr (.inr (.inr (.inr (.inr h))))))))))
theorem keyOff_of {H : Int} {l R : List (Addr × Obj)} {rs : List Cell} {kk : Addr} (hr : RowIn H R rs) (off : ∀ q ∈ l, q.1 ≠ kk) (sub : ∀ q ∈ R, q ∈ l) : KeyOff rs kk ∧ ∀ q ∈ R, q.1 ≠ kk := by
  refine ⟨fun c hc => ?_, fun q hq => off q (sub q hq)⟩
  obtain ⟨d, t, h⟩ := (hr c hc).1
  exact off _ (sub _ h)
end Mine
end
section
open PySem PySem.W PyProof.Rows
set_option maxRecDepth 100000
set_option maxHeartbeats 4000000
namespace Mine
open PyProof.V
theorem flat_fst : ∀ {kvs : List (Int × Value)} {c : List (Int × Int)}, FlatPairs PyData.int kvs (kdfD c) → kvs.map (·.1) = c.map (·.1)
  | [], [], _ => rfl
  | (_, _) :: _, (_, _) :: c, h => by
    cases h with
    | cons f r => simp only [List.map_cons]; rw [flat_fst (c := c) r]
  | [], _ :: _, h => nomatch h
  | _ :: _, [], h => nomatch h
theorem flat_snoc {k n : Int} {t : Tok} : ∀ {kvs : List (Int × Value)} {c : List (Int × Int)}, FlatPairs PyData.int kvs (kdfD c) → FlatPairs PyData.int (kvs ++ [(k, .int n t)]) (kdfD (c ++ [(k, n)]))
  | [], [], _ => .cons (PyProof.V.Flat.int n t) .nil
  | (_, _) :: _, (_, _) :: c, h => by
    cases h with
    | cons f r => exact .cons f (flat_snoc (c := c) r)
  | [], _ :: _, h => nomatch h
  | _ :: _, [], h => nomatch h
theorem lk_list_keys : typeLookup (.type "list") "keys" = pure none := by rw [typeLookup_type, builtinLookup_eq_fast]; kernel_rfl
theorem entry_upd_loop : entryFor table "dict.update.loop" = some Builtin.«dict.update.loop» := entryFor_of_tree (by kernel_rfl)
theorem plain_upd_loop : plainId "dict.update.loop" = true := by decide +kernel
section
variable {prog : Program} {w : World} {A : Around} {E : Value → Shared → Prop} {s : Shared}
theorem noKeys {a : Addr} {o : Obj} {xs : Array Value} {k : Nat} {Q : Option Value → Shared → Prop}
    (hx : s.heap.get? a = some o) (hc : o.cls = .type "list") (hdat : o.data = .seq xs k) (hd : o.dict = none) (hA : A.handled = none)
    (h : ∀ h' tk, (∀ b ob, s.heap.get? b = some ob → h'.get? b = some ob) → Q none { s with heap := h', toks := tk }) :
    wpAny (model prog w) A (getAttr? (.ref a) "keys") Q E s := by
  obtain ⟨c, dct, dat, sl⟩ := o
  simp only at hc hdat hd
  subst hc hdat hd
  obtain ⟨hp, g, d, tk, os⟩ := s
  have hT : ∀ tk', (⟨hp, g, d, tk', os⟩ : Shared).TypeIs (.ref a) "list" := fun _ => ⟨_, hx, rfl⟩
  have f1 := sub_AttributeError
  have f3 := F.slot_list_getattribute.lookup
  have f4 := F.slot_list_getattribute.bind (.ref a)
  have f5 := am_list_getattr_none
  unfold getAttr? getAttrBy? getAttrBy
  repeat (any_goals (first | assumption | exact hT _ | ((with_reducible show wpAny _ _ (call (Value.builtin "list.__getattribute__") _ _) _ _ _); refine call_meets F.slot_list_getattribute (hT _) am_entry_list_getattribute (F.args_list_getattribute_2 _ _) (meets_getattribute_miss_list a xs k sl "keys" _ lk_list_keys (by decide) (by decide)) ⟨hx, hA, fun h' tk' e hx' => ?_⟩) | wp_step))
  obtain ⟨t', u', he⟩ := hx'.there
  show wpAny _ _ (getattributeRaised _ _ _ _ _ _ _) _ _ _
  unfold getattributeRaised
  repeat (any_goals (first | assumption | wp_step))
  exact h _ _ hx'.keeps
/-- a pair that lies apart from the dict being made and the iterator -/
def TupAt (h : Heap) (d I : Addr) (v : Value) (p : Int × Int) : Prop := ∃ t o n t1 t2, v = .ref t ∧ t ≠ d ∧ t ≠ I ∧ h.get? t = some o ∧ o.cls = .type "tuple" ∧ o.data = .seq #[.int p.1 t1, .int p.2 t2] n
theorem upd_loop {d I D : Addr} {ys : Array Value} {ps : List (Int × Int)} {R : Result → Shared → Prop} {h₁ : Heap} (hh : A.handled = none) (hDI : D ≠ I) (hDd : D ≠ d) (hdI : d ≠ I) (hD : h₁.IsList D ys) (hz : ys.size = ps.length) (hn : (ps.map (·.1)).Nodup) (hl : ps.length ≤ 400)
    (tup : ∀ (j : Nat) v, ys[j]? = some v → ∃ p, ps[j]? = some p ∧ TupAt h₁ d I v p)
    (fin : ∀ h' tk kvs, (∀ b o, b ≠ d → b ≠ I → h₁.get? b = some o → h'.get? b = some o) → h'.DictOf (PySem.intKind prog w) d kvs → FlatPairs PyData.int kvs (kdfD ps) → R (.ok (.ret .none)) { s with heap := h', toks := tk }) :
    ∀ (rest done : List (Int × Int)) (h : Heap) (tk : Nat) (i : Int) (kvs : List (Int × Value)), ps = done ++ rest → (∀ b o, b ≠ d → b ≠ I → h₁.get? b = some o → h.get? b = some o) → h.IsListIter I D done.length → h.DictOf (PySem.intKind prog w) d kvs → FlatPairs PyData.int kvs (kdfD done) →
      codeAny (model prog w) A (.builtin "dict.update.loop" ⟨[.ref d, .ref I, rawInt i, .none], []⟩) R { s with heap := h, toks := tk } := by
  intro rest
  induction rest with
  | nil =>
    intro done h tk i kvs hp hk hit hd hf
    rw [List.append_nil] at hp
    subst hp
    refine codeAny_builtin entry_upd_loop ?_
    rw [Around.under_plainId plain_upd_loop _]
    have hlst : h.IsList D ys := by obtain ⟨o, e, r⟩ := hD; exact ⟨o, hk _ _ hDd hDI e, r⟩
    refine wpAny_bind ((Walks.list (prog := prog) (w := w) (A := A.in1) hh I D hDI ys).done { s with heap := h, toks := tk } _ _ (by rw [hz]; exact ⟨hit, hlst⟩) fun h' tk' hk' => ?_)
    show wpAny _ _ (Builtin.Dict.addKeywords d [] >>= _) _ _ _
    refine wpAny_bind (wpAny_pure (wpAny_pure ?_))
    exact fin h' tk' kvs (fun b o h1 h2 e => hk' b o (by simpa using h2) (hk b o h1 h2 e)) (hd.at fun o e => hk' _ o (by simpa using hdI) e) hf
  | cons p rest ih =>
    intro done h tk i kvs hp hk hit hd hf
    refine codeAny_builtin entry_upd_loop ?_
    rw [Around.under_plainId plain_upd_loop _]
    have hlst : h.IsList D ys := by obtain ⟨o, e, r⟩ := hD; exact ⟨o, hk _ _ hDd hDI e, r⟩
    have hlt : done.length < ys.size := by rw [hz, hp]; simp
    refine wpAny_bind ((Walks.list (prog := prog) (w := w) (A := A.in1) hh I D hDI ys).item done.length { s with heap := h, toks := tk } _ _ hlt ⟨hit, hlst⟩ fun v h' tk' hv hst hk' => ?_)
    obtain ⟨p', hp', t, o, n, t1, t2, rfl, htd, htI, ho, hoc, hod⟩ := tup _ _ hv
    have hpp : p' = p := by
      rw [hp, List.getElem?_append_right (Nat.le_refl _), Nat.sub_self] at hp'
      exact (Option.some.inj hp').symm
    subst hpp
    have ho' : h'.get? t = some o := hk' _ _ (by simpa using htI) (hk _ _ htd htI ho)
    have hd' : h'.DictOf (PySem.intKind prog w) d kvs := hd.at fun o e => hk' _ o (by simpa using hdI) e
    have hkl : kvs.length ≤ 400 := by
      have := hf.length
      rw [kdfD_length] at this
      have e := congrArg List.length hp
      rw [List.length_append] at e
      omega
    have hfresh : ¬ (kvs.any fun kv => kv.1 = p'.1) = true := by
      intro q
      obtain ⟨kv, hkv, e⟩ := List.any_eq_true.mp q
      have hm : p'.1 ∈ done.map (·.1) := by
        rw [← flat_fst hf, ← of_decide_eq_true e]
        exact List.mem_map_of_mem hkv
      rw [hp, List.map_append, List.map_cons] at hn
      exact (List.nodup_append.mp hn).2.2 _ hm _ (.head _) rfl
    refine wpAny_bind (wpAny_holding (wpAny_bind (wpAny_tryCatch ?_)))
    unfold Builtin.Dict.pairItems
    refine wpAny_bind (wpAny_typeOf (T := "tuple") ⟨o, ho', hoc⟩ ?_)
    rw [if_pos (by decide)]
    refine wpAny_bind (wpAny_seqItems ho' hod ?_)
    refine wpAny_pure ?_
    show wpAny _ _ (holding [.int p'.1 t1, .int p'.2 t2] (dictSet d (.int p'.1 t1) (.int p'.2 t2))) _ _ _
    refine wpAny_holding (wpAny_dictSet_pairs (s := { s with heap := h', toks := tk' }) (knd := PySem.intKind prog w) (k := p'.1) (intKind_is _ _ _ _) hd' (fun h'' hd'' hs'' => ?_) (by rw [sizeLine_eq]; omega))
    refine wpAny_pure ⟨plainId_quiet plain_upd_loop _, ?_⟩
    rw [stored, if_neg hfresh] at hd''
    refine ih (done ++ [p']) h'' _ _ _ (by rw [hp]; simp) (fun b o h1 h2 e => hs''.extBut b o h1 (hk' b o (by simpa using h2) (hk b o h1 h2 e))) ?_ hd'' (flat_snoc hf)
    rw [List.length_append]
    exact hst.1.extBut hs''.extBut (Ne.symm hdI)
theorem call_dict_pairs {D : Addr} {o : Obj} {ys : Array Value} {nn : Nat} {ps : List (Int × Int)} {Q : Value → Shared → Prop} (hh : A.handled = none) (hD : s.heap.get? D = some o) (hc : o.cls = .type "list") (hdat : o.data = .seq ys nn) (hdd : o.dict = none) (hz : ys.size = ps.length) (hn : (ps.map (·.1)).Nodup) (hl : ps.length ≤ 400)
    (tup : ∀ (j : Nat) v, ys[j]? = some v → ∃ p, ps[j]? = some p ∧ ∃ t ot n t1 t2, v = .ref t ∧ s.heap.get? t = some ot ∧ ot.cls = .type "tuple" ∧ ot.data = .seq #[.int p.1 t1, .int p.2 t2] n)
    (fin : ∀ h' tk kvs, (∀ b o, s.heap.get? b = some o → h'.get? b = some o) → h'.DictOf (PySem.intKind prog w) s.heap.objs.size kvs → FlatPairs PyData.int kvs (kdfD ps) → Q (.ref s.heap.objs.size) { s with heap := h', toks := tk }) :
    wpAny (model prog w) A (call (.type "dict") [.ref D]) Q E s := by
  refine callType_codes (Q₁ := fun obj s₁ => obj = .ref s.heap.objs.size ∧ s₁ = { s with heap := s.heap.push { cls := .type "dict", data := .dict #[] } }) F.kt_called_dict (F.kt_typeCall_dict_1 _) F.entry_dict_init (kt_code_dict_new _ ⟨rfl, rfl⟩) ?_
  rintro obj s₁ ⟨rfl, rfl⟩
  have hnew : (s.heap.push { cls := .type "dict", data := .dict #[] }).DictOf (PySem.intKind prog w) s.heap.objs.size [] := Heap.DictOf.new s.heap
  have hlt := Heap.lt_size hD
  have hD' : (s.heap.push { cls := .type "dict", data := .dict #[] }).get? D = some o := Heap.get?_push_of_some _ hD
  refine ⟨hnew.typeIs, F.args_dict_init_2 _ _, ?_⟩
  unfold Builtin.«dict.__init__»
  refine wpAny_bind ?_
  unfold Builtin.Dict.selfAndRest
  refine wpAny_bind (wpAny_notOrdered_dict hnew.typeIs ?_)
  show wpAny _ _ (pure (s.heap.objs.size, [Value.ref D])) _ _ _
  refine wpAny_pure ?_
  show wpAny _ _ (Builtin.Dict.updateFrom "dict.__init__" s.heap.objs.size (.ref D) [] .none) _ _ _
  unfold Builtin.Dict.updateFrom
  refine wpAny_bind (wpAny_typeOf (T := "list") ⟨o, hD', hc⟩ ?_)
  rw [if_pos (by decide)]
  refine wpAny_bind (noKeys hD' hc hdat hdd hh fun h₂ tk₂ hk₂ => ?_)
  rw [if_pos (show (none : Option Value).isNone = true from rfl)]
  refine wpAny_bind (wpAny_rule ?_)
  refine wpAny_bind ?_
  have hl₂ : h₂.IsList D ys := ⟨o, hk₂ _ _ hD', hc, nn, hdat⟩
  have hd₂ : h₂.DictOf (PySem.intKind prog w) s.heap.objs.size [] := hnew.at fun _ e => hk₂ _ _ e
  have hlt₂ : s.heap.objs.size < h₂.objs.size := by
    obtain ⟨_, _, _, e, _⟩ := hd₂
    exact Heap.lt_size e
  refine wpAny_pyIter_list hl₂ ?_
  refine wpAny_pure ⟨plainId_quiet plain_upd_loop _, ?_⟩
  have up : ∀ b o, s.heap.get? b = some o → (h₂.push { cls := .type "list_iterator", data := .fields #[.ref D, .int 0 0] }).get? b = some o := fun b o e => Heap.get?_push_of_some _ (hk₂ _ _ (Heap.get?_push_of_some _ e))
  have loop := upd_loop (s := s) (prog := prog) (w := w) (A := A.in1) (d := s.heap.objs.size) (I := h₂.objs.size) (D := D) (ys := ys) (ps := ps) (h₁ := h₂.push { cls := .type "list_iterator", data := .fields #[.ref D, .int 0 0] })
    (R := wants (fun r s₂ => r = .none ∧ Q (.ref s.heap.objs.size) s₂) E) hh (Nat.ne_of_lt (Nat.lt_trans hlt hlt₂)) (Nat.ne_of_lt hlt) (Nat.ne_of_lt hlt₂) (hl₂.push _) hz hn hl
    (fun j v hv => by
      obtain ⟨p, hp, t, ot, n, t1, t2, e1, e2, e3, e4⟩ := tup j v hv
      have := Heap.lt_size e2
      exact ⟨p, hp, t, ot, n, t1, t2, e1, Nat.ne_of_lt this, Nat.ne_of_lt (Nat.lt_trans this hlt₂), up _ _ e2, e3, e4⟩)
    (fun h' tk kvs hk hd hf => ⟨rfl, fin h' tk kvs (fun b o e => hk b o (Nat.ne_of_lt (Heap.lt_size e)) (Nat.ne_of_lt (Nat.lt_trans (Heap.lt_size e) hlt₂)) (up b o e)) hd hf⟩)
  exact loop ps [] _ _ 0 [] rfl (fun b o _ _ e => e) ⟨_, Heap.get?_push_size _ rfl, rfl, rfl⟩ (hd₂.push _) .nil
theorem dictPairs_K {h₀ : Heap} {L D : Addr} {m : Str → Option Value} {news : List (Addr × Obj)} {ys : List Value} {ps : List (Int × Int)} {Q : Value → Shared → Prop} (hh : A.handled = none) (F : Fr h₀ L s.heap m) (N : News h₀ L s.heap news) (hbig : h₀.NoLimit) (hD : (D, LCg.lst ys) ∈ news)
    (hz : ys.length = ps.length) (hn : (ps.map (·.1)).Nodup) (hl : ps.length ≤ 400)
    (tup : ∀ (j : Nat) v, ys[j]? = some v → ∃ p, ps[j]? = some p ∧ ∃ t ot n t1 t2, v = .ref t ∧ (t, ot) ∈ news ∧ ot.cls = .type "tuple" ∧ ot.data = .seq #[.int p.1 t1, .int p.2 t2] n)
    (h : ∀ d h' tk o kvs, Fr h₀ L h' m → News h₀ L h' ((d, o) :: news) → (∀ q ∈ news, q.1 < d) → (d == sysModules) = false → o.IsDictOf (PySem.intKind prog w) kvs → FlatPairs PyData.int kvs (kdfD ps) → Q (.ref d) { s with heap := h', toks := tk }) :
    wpAny (model prog w) A (call (.type "dict") [.ref D]) Q E s := by
  refine call_dict_pairs hh (N _ hD).1 rfl rfl rfl (by simpa using hz) hn hl (fun j v hv => ?_) fun h' tk kvs hk hd hf => ?_
  · obtain ⟨p, hp, t, ot, n, t1, t2, e1, e2, e3⟩ := tup j v (by simpa using hv)
    exact ⟨p, hp, t, ot, n, t1, t2, e1, (N _ e2).1, e3⟩
  · obtain ⟨o', ho', hd'⟩ := Heap.dictOf_iff.mp hd
    refine h _ h' tk o' kvs (fr_keep F hk) (fun q hq => ?_) (fun q hq => Heap.lt_size (N q hq).1) (F.notModules (modules_low hbig)) hd' hf
    rcases List.mem_cons.mp hq with rfl | hq
    · exact ⟨ho', Ne.symm (Nat.ne_of_lt F.ns.lt), next_is_new F⟩
    · exact ⟨hk _ _ (N q hq).1, (N q hq).2⟩
end
end Mine
end
section
open PySem PySem.W PySem.W.X PyProof.Rows PyProof.Rows.LCg PyProof.Rows.LCt
set_option maxRecDepth 100000
set_option maxHeartbeats 4000000
namespace Mine
section
variable {prog : Program} {w : World} {A : Around} {E : Value → Shared → Prop} {s : Shared} {h₀ : Heap} {L : Addr} {m : Str → Option Value} {env : Env}
/-- the keys of a dict letter as the source of a block with a test -/
def SrcD (prog : Program) (w : World) (A : Around) (h₀ : Heap) (L : Addr) (m : Str → Option Value) (env : Env) (ct elt : Expr) (x : Str) (scope : Scope) (cl : List (Str × Addr)) (Fin : Shared → List Value → List (Addr × Obj) → Prop) (xv : Value) (s₁ : Shared) : Prop :=
  ∃ (tab : Addr) (od : Obj) (kvs : List (Int × Value)) (c : List (Int × Int)) (news : List (Addr × Obj)), xv = .ref tab ∧ A.handled = none ∧ Fr h₀ L s₁.heap m ∧ News h₀ L s₁.heap news ∧ (tab == sysModules) = false ∧ (tab, od) ∈ news ∧ od.IsDictOf (PySem.intKind prog w) kvs ∧
    PyProof.V.FlatPairs PyData.int kvs (kdfD c) ∧ c.length ≤ 400 ∧
    ∀ g : Heap, CompRestT prog w A h₀ L m env ct elt x scope cl { s₁ with heap := g } (fun nw => (tab, od) ∈ nw) (fun i v => ∃ p t, c[i]? = some p ∧ v = .int p.1 t) (Fin { s₁ with heap := g }) c.length 0 [] news
theorem ListComp_D {ct elt iter : Expr} {x : Str} {px : Pos} {scope : Scope} {cl : List (Str × Addr)} {pos : Pos} {Q : Value → Shared → Prop} (_F₀ : Fr h₀ L s.heap m)
    (hclos : closureFor scope env = pure cl) (hcell : ∀ y ∈ scope.names, y.2 ≠ .cell) (hkind : scope.kind = .function)
    (hnames : ∀ y ∈ scope.names, y.2 = .local → scope.names.lookup y.1 = some .local) (hx : scope.names.lookup x = some .local)
    (h : wpAny (model prog w) A (eval iter env) (SrcD prog w A h₀ L m env ct elt x scope cl (fun s₂ => FinE h₀ L m s₂ Q)) E s)
    (hs : ∀ x, foldedSetIterable iter env x = pure x := by intro _; rfl) :
    wpAny (model prog w) A (eval (.ListComp elt [⟨.Name x px, iter, [ct], 0⟩] scope pos) env) Q E s := by
  rw [eval_ListComp]
  refine wpAny_comprehension_free (use := none) rfl hs hclos hkind hnames (wpAny_mono h (fun xv s₁ h₁ => ?_) fun _ _ e => e)
  obtain ⟨tab, od, kvs, c, news, rfl, hh, F, N, lo, hmd, hd, hf, hsz, R⟩ := h₁
  obtain ⟨ep, hat⟩ := KdkAt.of hd
  have hD := hat.dictAt (N _ hmd).1
  have hlen : c.length = kvs.length := by have := hf.length; rwa [kdfD_length] at this
  rw [hlen] at R
  have hlt : tab < s₁.heap.objs.size := Heap.lt_size (N _ hmd).1
  refine wpAny_pyIter_dict lo hD ?_
  have W₀ := Walks.dictKeys (prog := prog) (w := w) (A := A) (knd := PySem.intKind prog w) hh s₁.heap.objs.size tab (Nat.ne_of_lt hlt) kvs ep
  have W : Walks prog w A s₁.heap.objs.size [s₁.heap.objs.size, tab] [s₁.heap.objs.size] kvs.length (fun i v => ∃ p t, c[i]? = some p ∧ v = .int p.1 t) (fun i h => h.IsKeyIter s₁.heap.objs.size tab i kvs.length ep ∧ h.DictAt (PySem.intKind prog w) tab kvs ep) :=
    { sub := W₀.sub, frame := W₀.frame, done := W₀.done, self := W₀.self,
      item := fun i s Q E hi st hQ => W₀.item i s Q E hi st fun v h' tk hP => hQ v h' tk (by
        obtain ⟨k, x, hx, hk⟩ := hP
        obtain ⟨dv, hd, _⟩ := hf.at hx
        obtain ⟨t, rfl⟩ := PyProof.V.Flat.int_inv (kdl_flat_int hk)
        unfold kdfD at hd
        rw [List.getElem?_map] at hd
        cases q : c[i]? with
        | none => rw [q] at hd; cases hd
        | some y =>
          rw [q] at hd
          have h1 := congrArg Prod.fst (Option.some.inj hd)
          have h2 := PyData.int.inj h1
          exact ⟨y, t, rfl, by rw [h2]⟩) }
  refine block_T W (by rw [sizeLine_eq]; omega) (fun i h st => by obtain ⟨o, e, _⟩ := st.1; exact ⟨o, e⟩)
    (fun i h h' o nw st e e' _ N' S => ⟨st.1.at fun o' q => by rw [e] at q; cases q; exact e', hat.dictAt (N' _ S).1⟩) hcell hkind hx
    ⟨⟨_, Heap.get?_push_size _ rfl, rfl, rfl⟩, hat.dictAt (Heap.get?_push_of_some _ (N _ hmd).1)⟩ (fun b hb => ?_)
    (F.keeps fun _ _ e => Heap.get?_push_of_some _ e) (N.grown fun _ _ e => Heap.get?_push_of_some _ e) (Nat.ne_of_lt F.ns.lt) (next_is_new F) (fun p hp => Nat.ne_of_lt (Heap.lt_size (N p hp).1)) hmd (R _) ?_
  · show b < (s₁.heap.push _).objs.size
    rw [Heap.size_push]
    rcases List.mem_cons.mp hb with rfl | hb
    · exact Nat.lt_succ_self _
    · rw [List.mem_singleton.mp hb]; exact Nat.lt_succ_of_lt hlt
  · intro D C h tk m' ys news' F' N' o1 hn hC₀ hD₀ hCL hDL hCD offC fin
    refine ⟨m', hn, fun h'' hs'' => fin D h'' tk (F'.change hs'' hCL hC₀) (fun p hp => ?_) o1⟩
    refine ⟨hs''.extBut _ _ ?_ (N' p hp).1, (N' p hp).2⟩
    rcases List.mem_cons.mp hp with rfl | hp
    · exact Ne.symm hCD
    · exact offC p hp
theorem CompEnd.mono {I C D : Addr} {s₁ s₂ : Shared} {oI oC oD : Obj} {S : List (Addr × Obj) → Prop} {r r' : Value → List (Addr × Obj) → Prop} {y : Value} (h : CompEnd h₀ L m s₁ I oI C oC D oD S r y s₂) (k : ∀ nw, r y nw → r' y nw) : CompEnd h₀ L m s₁ I oI C oC D oD S r' y s₂ := by
  obtain ⟨h', tk, nw, e, F, N, o, hS, hr⟩ := h
  exact ⟨h', tk, nw, e, F, N, o, hS, k nw hr⟩
theorem compRest_inv {ct elt : Expr} {x : Str} {scope : Scope} {cl : List (Str × Addr)} {S : List (Addr × Obj) → Prop} {P : Nat → Value → Prop} {Fin : List Value → List (Addr × Obj) → Prop} {n : Nat} (J : Nat → List Value → List (Addr × Obj) → Prop)
    (turn : ∀ i ys news v I oI C oC D m₂ h tk (E' : Value → Shared → Prop), i < n → J i ys news → P i v → NsObj oC m₂ → m₂ x = some v → Fr h₀ L h m → News h₀ L h ((I, oI) :: (C, oC) :: (D, lst ys) :: news) → Off3 I C D news → ((@Ne Nat I C) ∧ (@Ne Nat I D) ∧ (@Ne Nat C D)) →
      wpAny (model prog w) A (isTrue ct (compEnvC scope cl C env) (eval ct (compEnvC scope cl C env))) (fun ok s' => if ok = true then
        wpAny (model prog w) A (eval elt (compEnvC scope cl C env)) (CompEnd h₀ L m { s with heap := h, toks := tk } I oI C oC D (lst ys) S (fun y news' => J (i + 1) (ys ++ [y]) news')) E' s'
        else CompEnd h₀ L m { s with heap := h, toks := tk } I oI C oC D (lst ys) S (fun _ news' => J (i + 1) ys news') Value.none s') E' { s with heap := h, toks := tk })
    (fin : ∀ ys news, J n ys news → Fin ys news) : ∀ k i ys news, i + k = n → J i ys news → CompRestT prog w A h₀ L m env ct elt x scope cl s S P Fin k i ys news
  | 0, i, ys, news, e, hj => fin ys news ((show i = n from e) ▸ hj)
  | k + 1, i, ys, news, e, hj => fun v I oI C oC D m₂ h tk E' hP hC hx F N off ne =>
    wpAny_mono (turn i ys news v I oI C oC D m₂ h tk E' (by omega) hj hP hC hx F N off ne) (fun ok s' h' => by
      cases ok with
      | true =>
        simp only [if_true] at h' ⊢
        exact wpAny_mono h' (fun y s'' q => CompEnd.mono q fun nw hr => compRest_inv J turn fin k (i + 1) _ nw (by omega) hr) fun _ _ q => q
      | false =>
        simp only [Bool.false_eq_true, if_false] at h' ⊢
        exact CompEnd.mono h' fun nw hr => compRest_inv J turn fin k (i + 1) _ nw (by omega) hr) fun _ _ q => q
theorem SrcD.intro {ct elt : Expr} {x : Str} {scope : Scope} {cl : List (Str × Addr)} {Fin : Shared → List Value → List (Addr × Obj) → Prop} {s₁ : Shared} {tab : Addr} {od : Obj} {kvs : List (Int × Value)} {c : List (Int × Int)} {news : List (Addr × Obj)} (J : Nat → List Value → List (Addr × Obj) → Prop)
    (hh : A.handled = none) (F : Fr h₀ L s₁.heap m) (N : News h₀ L s₁.heap news) (lo : (tab == sysModules) = false) (hm : (tab, od) ∈ news) (hd : od.IsDictOf (PySem.intKind prog w) kvs) (hf : PyProof.V.FlatPairs PyData.int kvs (kdfD c)) (hz : c.length ≤ 400) (j0 : J 0 [] news)
    (turn : ∀ i ys nw p t I oI C oC D m₂ h tk (E' : Value → Shared → Prop), c[i]? = some p → J i ys nw → NsObj oC m₂ → m₂ x = some (.int p.1 t) → Fr h₀ L h m → News h₀ L h ((I, oI) :: (C, oC) :: (D, lst ys) :: nw) → Off3 I C D nw → ((@Ne Nat I C) ∧ (@Ne Nat I D) ∧ (@Ne Nat C D)) →
      wpAny (model prog w) A (isTrue ct (compEnvC scope cl C env) (eval ct (compEnvC scope cl C env))) (fun ok s' => if ok = true then
        wpAny (model prog w) A (eval elt (compEnvC scope cl C env)) (CompEnd h₀ L m { s₁ with heap := h, toks := tk } I oI C oC D (lst ys) (fun nw => (tab, od) ∈ nw) (fun y news' => J (i + 1) (ys ++ [y]) news')) E' s'
        else CompEnd h₀ L m { s₁ with heap := h, toks := tk } I oI C oC D (lst ys) (fun nw => (tab, od) ∈ nw) (fun _ news' => J (i + 1) ys news') Value.none s') E' { s₁ with heap := h, toks := tk })
    (fin : ∀ g ys nw, J c.length ys nw → Fin { s₁ with heap := g } ys nw) : SrcD prog w A h₀ L m env ct elt x scope cl Fin (.ref tab) s₁ := by
  refine ⟨tab, od, kvs, c, news, rfl, hh, F, N, lo, hm, hd, hf, hz, fun g => ?_⟩
  refine compRest_inv J (fun i ys nw v I oI C oC D m₂ h tk E' hi hJ hP hC hx F' N' off ne => ?_) (fin g) c.length 0 [] news (by omega) j0
  obtain ⟨p, t, hp, rfl⟩ := hP
  exact turn i ys nw p t I oI C oC D m₂ h tk E' hp hJ hC hx F' N' off ne
end
/-- the keys behind a key, among the first i -/
def behOf (c : List (Int × Int)) (k : Int) (i : Nat) : List Int := ((c.take i).filter fun p => decide (k < p.1)).map (·.1)
def BehJ (N₀ : List (Addr × Obj)) (c : List (Int × Int)) (k : Int) (i : Nat) (ys : List Value) (nw : List (Addr × Obj)) : Prop := nw = N₀ ∧ IntsAre ys (behOf c k i)
theorem beh_start (N₀ : List (Addr × Obj)) (c : List (Int × Int)) (k : Int) : BehJ N₀ c k 0 [] N₀ := ⟨rfl, .nil⟩
theorem behOf_yes {c : List (Int × Int)} {k : Int} {i : Nat} {p : Int × Int} (hc : c[i]? = some p) (h : p.1 > k) : behOf c k (i + 1) = behOf c k i ++ [p.1] := by
  unfold behOf
  rw [List.take_add_one, hc]
  simp [h]
theorem behOf_no {c : List (Int × Int)} {k : Int} {i : Nat} {p : Int × Int} (hc : c[i]? = some p) (h : ¬ p.1 > k) : behOf c k (i + 1) = behOf c k i := by
  unfold behOf
  rw [List.take_add_one, hc]
  have : ¬ k < p.1 := h
  simp [this]
theorem intsAre_snoc {k : Int} {t : Tok} : ∀ {vs : List Value} {ns : List Int}, IntsAre vs ns → IntsAre (vs ++ [.int k t]) (ns ++ [k])
  | _, _, .nil => .cons _ _ .nil
  | _, _, .cons _ _ r => .cons _ _ (intsAre_snoc r)
section
variable {s₁ : Shared} {h₀ h' : Heap} {L tab I C D : Addr} {m : Str → Option Value} {od oI oC : Obj} {ys : List Value} {N₀ : List (Addr × Obj)} {c : List (Int × Int)} {k : Int} {i tk : Nat} {p : Int × Int} {t : Tok}
theorem beh_yes (F : Fr h₀ L h' m) (N : News h₀ L h' ((I, oI) :: (C, oC) :: (D, lst ys) :: N₀)) (off : Off3 I C D N₀) (hS : (tab, od) ∈ N₀) (hI : IntsAre ys (behOf c k i)) (hc : c[i]? = some p) (hk : p.1 > k) :
    CompEnd h₀ L m s₁ I oI C oC D (lst ys) (fun nw => (tab, od) ∈ nw) (fun y nw => BehJ N₀ c k (i + 1) (ys ++ [y]) nw) (.int p.1 t) { s₁ with heap := h', toks := tk } :=
  ⟨h', tk, N₀, rfl, F, N, off, hS, rfl, by rw [behOf_yes hc hk]; exact intsAre_snoc hI⟩
theorem beh_no (F : Fr h₀ L h' m) (N : News h₀ L h' ((I, oI) :: (C, oC) :: (D, lst ys) :: N₀)) (off : Off3 I C D N₀) (hS : (tab, od) ∈ N₀) (hI : IntsAre ys (behOf c k i)) (hc : c[i]? = some p) (hk : ¬ p.1 > k) {v : Value} :
    CompEnd h₀ L m s₁ I oI C oC D (lst ys) (fun nw => (tab, od) ∈ nw) (fun _ nw => BehJ N₀ c k (i + 1) ys nw) v { s₁ with heap := h', toks := tk } :=
  ⟨h', tk, N₀, rfl, F, N, off, hS, rfl, by rw [behOf_no hc hk]; exact hI⟩
end
theorem behOf_all (c : List (Int × Int)) (k : Int) : behOf c k c.length = (c.map (·.1)).filter fun x => decide (k < x) := by
  unfold behOf
  rw [List.take_length, List.filter_map]
  rfl
theorem filter_beh {k : Int} {pre post : List Cell} {x : Cell} (hk : x.k = k) (ha : Asc (pre ++ x :: post)) : ((pre ++ x :: post).map (·.k)).filter (fun y => decide (k < y)) = post.map (·.k) := by
  have hp := List.pairwise_append.mp ha
  have hpre : ∀ y ∈ pre, y.k < k := fun y hy => hk ▸ hp.2.2 y hy x (.head _)
  have hpost : ∀ y ∈ post, k < y.k := fun y hy => hk ▸ (List.pairwise_cons.mp hp.2.1).1 y hy
  rw [List.map_append, List.map_cons, List.filter_append, List.filter_cons]
  have h1 : (pre.map (·.k)).filter (fun y => decide (k < y)) = [] := List.filter_eq_nil_iff.mpr fun y hy => by
    obtain ⟨z, hz, rfl⟩ := List.mem_map.mp hy
    have := hpre z hz
    simp; omega
  have h2 : (post.map (·.k)).filter (fun y => decide (k < y)) = post.map (·.k) := List.filter_eq_self.mpr fun y hy => by
    obtain ⟨z, hz, rfl⟩ := List.mem_map.mp hy
    have := hpost z hz
    simp; omega
  rw [h1, h2, hk]
  simp
theorem beh_sorted {c : List (Int × Int)} {rs pre post : List Cell} {x : Cell} {k : Int} {ks : List Int} (ho : RowOf rs c) (hs : rs = pre ++ x :: post) (hk : x.k = k) (hp : ks.Perm (behOf c k c.length)) (hsort : ks.Pairwise (· ≤ ·)) : ks = post.map (·.k) := by
  have h1 : (behOf c k c.length).Perm (post.map (·.k)) := by
    rw [behOf_all]
    have := ho.perm.filter fun y => decide (k < y)
    rw [hs, filter_beh hk (hs ▸ ho.asc)] at this
    exact this
  have ha : (post.map (·.k)).Pairwise (· ≤ ·) := by
    have h2 := hs ▸ ho.strict
    rw [List.map_append, List.map_cons] at h2
    exact (List.pairwise_cons.mp (List.pairwise_append.mp h2).2.1).2.imp fun h => Int.le_of_lt h
  exact lks_uniq (hp.trans h1) hsort ha
/-- the pairs that a clearing keeps, among the first i -/
def clrOf (c : List (Int × Int)) (k last : Int) (i : Nat) : List (Int × Int) := (c.take i).filter fun p => decide (p.1 ≤ k ∨ p.1 > last)
def ClrT (ts : List (Addr × Obj)) (ys : List Value) (ps : List (Int × Int)) : Prop := ys.length = ps.length ∧ ∀ (j : Nat) v, ys[j]? = some v → ∃ p, ps[j]? = some p ∧ ∃ t ot n t1 t2, v = .ref t ∧ (t, ot) ∈ ts ∧ ot.cls = .type "tuple" ∧ ot.data = .seq #[.int p.1 t1, .int p.2 t2] n
def ClrK (N₀ : List (Addr × Obj)) (c : List (Int × Int)) (k last : Int) (i : Nat) (ys : List Value) (nw : List (Addr × Obj)) : Prop := ∃ ts, nw = N₀ ++ ts ∧ ClrT ts ys (clrOf c k last i)
theorem clrK_start (N₀ : List (Addr × Obj)) (c : List (Int × Int)) (k last : Int) : ClrK N₀ c k last 0 [] N₀ := ⟨[], by simp, rfl, fun j v h => by simp at h⟩
theorem clrOf_yes {c : List (Int × Int)} {k last : Int} {i : Nat} {p : Int × Int} (hc : c[i]? = some p) (h : p.1 ≤ k ∨ p.1 > last) : clrOf c k last (i + 1) = clrOf c k last i ++ [p] := by
  unfold clrOf
  rw [List.take_add_one, hc, List.filter_append]
  simp [h]
theorem clrOf_no {c : List (Int × Int)} {k last : Int} {i : Nat} {p : Int × Int} (hc : c[i]? = some p) (h : ¬ (p.1 ≤ k ∨ p.1 > last)) : clrOf c k last (i + 1) = clrOf c k last i := by
  unfold clrOf
  rw [List.take_add_one, hc, List.filter_append]
  simp [h]
theorem clrT_snoc {ts : List (Addr × Obj)} {ys : List Value} {ps : List (Int × Int)} {p : Int × Int} {t : Addr} {ot : Obj} {n : Nat} {t1 t2 : Tok} (h : ClrT ts ys ps) (hc : ot.cls = .type "tuple") (hd : ot.data = .seq #[.int p.1 t1, .int p.2 t2] n) : ClrT ((t, ot) :: ts) (ys ++ [.ref t]) (ps ++ [p]) := by
  refine ⟨by simp [h.1], fun j v hv => ?_⟩
  by_cases hj : j < ys.length
  · rw [List.getElem?_append_left hj] at hv
    obtain ⟨q, hq, a, b, n', t1', t2', e1, e2, e3⟩ := h.2 j v hv
    exact ⟨q, by rw [List.getElem?_append_left (h.1 ▸ hj)]; exact hq, a, b, n', t1', t2', e1, .tail _ e2, e3⟩
  · rw [List.getElem?_append_right (by omega)] at hv
    have hj0 : j - ys.length = 0 := by
      by_cases q : j - ys.length = 0
      · exact q
      · rw [List.getElem?_eq_none (by simp; omega)] at hv; cases hv
    rw [hj0] at hv
    have hv' := Option.some.inj hv
    subst hv'
    refine ⟨p, ?_, t, ot, n, t1, t2, rfl, .head _, hc, hd⟩
    have h1 := h.1
    rw [List.getElem?_append_right (by omega), ← h1, hj0]; rfl
section
variable {s₁ : Shared} {h₀ h' : Heap} {L tab I C D : Addr} {m : Str → Option Value} {od oI oC : Obj} {ys : List Value} {N₀ ts : List (Addr × Obj)} {c : List (Int × Int)} {k last : Int} {i tk : Nat} {p : Int × Int} {t : Addr}
theorem clrK_yes {t1 t2 : Tok} {n : Nat} (F : Fr h₀ L h' m) (N : News h₀ L h' ((t, { cls := .type "tuple", data := .seq #[.int p.1 t1, .int p.2 t2] n }) :: (I, oI) :: (C, oC) :: (D, lst ys) :: (N₀ ++ ts))) (off : Off3 I C D (N₀ ++ ts)) (hS : (tab, od) ∈ N₀) (hT : ClrT ts ys (clrOf c k last i)) (hc : c[i]? = some p)
    (hk : p.1 ≤ k ∨ p.1 > last) {X : Prop} (ht : (@LT.lt Nat _ I t) ∧ (@LT.lt Nat _ C t) ∧ (@LT.lt Nat _ D t) ∧ X) :
    CompEnd h₀ L m s₁ I oI C oC D (lst ys) (fun nw => (tab, od) ∈ nw) (fun y nw => ClrK N₀ c k last (i + 1) (ys ++ [y]) nw) (.ref t) { s₁ with heap := h', toks := tk } := by
  refine ⟨h', tk, N₀ ++ (t, { cls := .type "tuple", data := .seq #[.int p.1 t1, .int p.2 t2] n }) :: ts, rfl, F, fun q hq => N q ?_, Off3.of fun q hq => ?_, List.mem_append_left _ hS, _, rfl, by rw [clrOf_yes hc hk]; exact clrT_snoc hT rfl rfl⟩
  · simp only [List.mem_cons, List.mem_append] at hq ⊢
    rcases hq with h | h | h | h | h | h
    · exact .inr (.inl h)
    · exact .inr (.inr (.inl h))
    · exact .inr (.inr (.inr (.inl h)))
    · exact .inr (.inr (.inr (.inr (.inl h))))
    · exact .inl h
    · exact .inr (.inr (.inr (.inr (.inr h))))
  · simp only [List.mem_append, List.mem_cons] at hq
    rcases hq with h | h | h
    · exact off.mem q (List.mem_append_left _ h)
    · subst h
      exact ⟨Nat.ne_of_gt ht.1, Nat.ne_of_gt ht.2.1, Nat.ne_of_gt ht.2.2.1⟩
    · exact off.mem q (List.mem_append_right _ h)
theorem clrK_no {v : Value} (F : Fr h₀ L h' m) (N : News h₀ L h' ((I, oI) :: (C, oC) :: (D, lst ys) :: (N₀ ++ ts))) (off : Off3 I C D (N₀ ++ ts)) (hS : (tab, od) ∈ N₀) (hT : ClrT ts ys (clrOf c k last i)) (hc : c[i]? = some p) (hk : ¬ p.1 ≤ k) (hk2 : ¬ p.1 > last) :
    CompEnd h₀ L m s₁ I oI C oC D (lst ys) (fun nw => (tab, od) ∈ nw) (fun _ nw => ClrK N₀ c k last (i + 1) ys nw) v { s₁ with heap := h', toks := tk } :=
  ⟨h', tk, N₀ ++ ts, rfl, F, N, off, List.mem_append_left _ hS, ts, rfl, by rw [clrOf_no hc (by omega)]; exact hT⟩
end
theorem tfind_filter {c : List (Int × Int)} {f : Int → Bool} {x : Int} : tfind (c.filter fun p => f p.1) x = if f x = true then tfind c x else none := by
  induction c with
  | nil => simp [tfind_nil]
  | cons p c ih =>
    rw [List.filter_cons]
    by_cases h : f p.1 = true
    · rw [if_pos h, tfind_cons, tfind_cons, ih]
      by_cases e : p.1 = x
      · subst e; simp [h]
      · simp [e]
    · rw [if_neg h, tfind_cons, ih]
      by_cases e : p.1 = x
      · subst e; simp [h]
      · simp [e]
theorem rowOf_clear {rs rs' : List Cell} {c : List (Int × Int)} {k last : Int} (ho : RowOf rs c) (ha : Asc rs') (hl : ∀ x, look rs' x = if k < x ∧ x ≤ last then none else look rs x) : RowOf rs' (clrOf c k last c.length) := by
  unfold clrOf
  rw [List.take_length]
  refine rowOf_of ha ?_ fun x => ?_
  · exact (List.filter_sublist.map _).nodup (rowOf_nodup ho)
  · have h1 : (c.filter fun p => decide (p.1 ≤ k ∨ p.1 > last)) = c.filter fun p => (fun y : Int => decide (y ≤ k ∨ y > last)) p.1 := rfl
    rw [h1, tfind_filter (f := fun y : Int => decide (y ≤ k ∨ y > last)), hl, rowOf_tell ho]
    by_cases h : k < x ∧ x ≤ last
    · have : ¬ (x ≤ k ∨ x > last) := by omega
      simp only [if_pos h, decide_eq_false this]; rfl
    · have : x ≤ k ∨ x > last := by omega
      simp only [if_neg h, decide_eq_true this]; rfl
theorem tab_get {rs : List Cell} {c : List (Int × Int)} {i : Nat} {p : Int × Int} (ho : RowOf rs c) (h : c[i]? = some p) : kdfHas c p.1 = true ∧ kdfLook c p.1 0 = p.2 := by
  refine has_of ?_
  have hn := rowOf_nodup ho
  clear ho
  induction c generalizing i with
  | nil => simp at h
  | cons q c ih =>
    rw [tfind_cons]
    cases i with
    | zero => cases Option.some.inj h; rw [if_pos rfl]
    | succ j =>
      have hm : p ∈ c := List.mem_of_getElem? h
      rw [if_neg, ih h (List.nodup_cons.mp hn).2]
      intro e
      exact (List.nodup_cons.mp hn).1 (by show q.1 ∈ _; rw [e]; exact List.mem_map_of_mem hm)
end Mine
end
section
open PySem PySem.W PySem.W.X PyProof.Rows PyProof.Rows.LCg PyProof.Rows.LCt
set_option maxRecDepth 100000
set_option maxHeartbeats 4000000
namespace Mine
theorem Apart.front {tab na d bag L : Addr} {R : List (Addr × Obj)} {q : Addr × Obj} (h : Apart tab na d bag L R) (hq : q.1 ≠ tab ∧ q.1 ≠ na ∧ q.1 ≠ d ∧ q.1 ≠ bag ∧ q.1 ≠ L + 1 + 1 + 1 ∧ q.1 ≠ L + 1 + 1 ∧ q.1 ≠ L + 1) : Apart tab na d bag L (q :: R) :=
  ⟨h.1, fun x hx => by
    rcases List.mem_cons.mp hx with rfl | hx
    · exact hq
    · exact h.2 x hx⟩
theorem off7 {tab : Addr} {otab : Obj} {na d : Addr} {rs : List Cell} {ep : Nat} {bag : Addr} {ob : Obj} {L : Addr} {ol ok ot : Obj} {R l : List (Addr × Obj)} {x : Addr} (off : ∀ c ∈ l, c.1 ≠ x) (sub : ∀ q ∈ led tab otab na d rs ep bag ob L ol ok ot R, q ∈ l) :
    x ≠ tab ∧ x ≠ na ∧ x ≠ d ∧ x ≠ bag ∧ x ≠ L + 1 + 1 + 1 ∧ x ≠ L + 1 + 1 ∧ x ≠ L + 1 :=
  ⟨Ne.symm (off _ (sub _ (.head _))), Ne.symm (off _ (sub _ (.tail _ (.head _)))), Ne.symm (off _ (sub _ (.tail _ (.tail _ (.head _))))), Ne.symm (off _ (sub _ (.tail _ (.tail _ (.tail _ (.head _)))))), Ne.symm (off _ (sub _ (.tail _ (.tail _ (.tail _ (.tail _ (.head _))))))),
    Ne.symm (off _ (sub _ (.tail _ (.tail _ (.tail _ (.tail _ (.tail _ (.head _)))))))), Ne.symm (off _ (sub _ (.tail _ (.tail _ (.tail _ (.tail _ (.tail _ (.tail _ (.head _))))))))) ⟩
theorem offR {tab : Addr} {otab : Obj} {na d : Addr} {rs : List Cell} {ep : Nat} {bag : Addr} {ob : Obj} {L : Addr} {ol ok ot : Obj} {R l : List (Addr × Obj)} {x : Addr} (off : ∀ c ∈ l, c.1 ≠ x) (sub : ∀ q ∈ led tab otab na d rs ep bag ob L ol ok ot R, q ∈ l) : ∀ r ∈ R, r.1 ≠ x :=
  fun r hr => off r (sub _ (.tail _ (.tail _ (.tail _ (.tail _ (.tail _ (.tail _ (.tail _ hr))))))))
theorem up19 {R : List (Addr × Obj)} {x0 p1 x1 x2 x3 x4 x5 x6 x7 : Addr × Obj} : Stay (p1 :: R) (x0 :: p1 :: x1 :: x2 :: x3 :: x4 :: x5 :: x6 :: x7 :: R) := by
  intro q hq _
  simp only [List.mem_cons] at hq ⊢
  rcases hq with h | h
  · exact .inr (.inl h)
  · exact .inr (.inr (.inr (.inr (.inr (.inr (.inr (.inr (.inr h))))))))
theorem off_sub {l R : List (Addr × Obj)} {a : Addr} (off : ∀ c ∈ l, c.1 ≠ a) (sub : ∀ q ∈ R, q ∈ l) : ∀ q ∈ R, q.1 ≠ a := fun q hq => off q (sub q hq)
/-- a new table -/
theorem Apart.newTab {tab tab' na d bag L : Addr} {R l : List (Addr × Obj)} {otab ob ol ok ot : Obj} {rs : List Cell} {ep : Nat} (h : Apart tab na d bag L R) (off : ∀ c ∈ l, c.1 ≠ tab') (sub : ∀ q ∈ led tab otab na d rs ep bag ob L ol ok ot R, q ∈ l) : Apart tab' na d bag L R := by
  have o := off7 off sub
  obtain ⟨⟨a1, a2, a3, a4, a5, a6, a7, a8, a9, a10, a11, a12, a13, a14, a15, a16, a17, a18⟩, hR⟩ := h
  exact ⟨⟨o.2.1, o.2.2.1, o.2.2.2.1, a4, a5, a6, o.2.2.2.2.1, o.2.2.2.2.2.1, o.2.2.2.2.2.2, a10, a11, a12, a13, a14, a15, a16, a17, a18⟩, fun q hq => ⟨offR off sub q hq, (hR q hq).2⟩⟩
theorem keys_of {rs' : List Cell} (ha : Asc rs') (h : ∀ x n, look rs' x = some n → 0 ≤ x ∧ x < 12) : ∀ x ∈ rs', 0 ≤ x.k ∧ x.k < 12 := fun x hx => h x.k x.n (look_mem ha hx)
theorem keys_look {rs : List Cell} (h : ∀ x ∈ rs, 0 ≤ x.k ∧ x.k < 12) {x n : Int} (q : look rs x = some n) : 0 ≤ x ∧ x < 12 := by
  obtain ⟨c, hc, rfl, _⟩ := look_some q
  exact h c hc
section
variable {w : World} {h₀ h' : Heap} {s : Shared} {L na d bag tab ka va e kk d1 d2 d3 d4 : Addr} {n tk ep : Nat} {R : List (Addr × Obj)} {m' : Str → Option Value} {otab o' ob ol ok ot : Obj} {kvs kvs' : List (Int × Value)} {c c' : List (Int × Int)} {rs rs' : List Cell} {bv k z k2 : Int} {vk vl : Option Value} {t1 t2 t4 : Tok}
theorem turn_ins
    (F : Fr h₀ L h' m') (N : News h₀ L h' ((ka, nameO d1 t1) :: (va, numO d2 z t2) :: (e, entO d3 (entHash w.params) ka va) :: (kk, numO d4 k2 t4) :: led tab o' na d rs' ep bag ob L ol ok ot R))
    (hap : Apart tab na d bag L R) (hkeys : ∀ x ∈ rs, 0 ≤ x.k ∧ x.k < 12) (hlen : rs.length ≤ n) (lo : (tab == sysModules) = false) (hct : ot.data = .cell (some (.ref tab)))
    (hcl : ol.data = .cell vl) (hck : ok.data = .cell vk) (bo : BagObj ob bv) (b0 : 0 ≤ bv) (isd : o'.IsDictOf (PySem.intKind PG w) kvs') (fl : PyProof.V.FlatPairs PyData.int kvs' (kdfD c'))
    (hr : RowIn (entHash w.params) ((ka, nameO d1 t1) :: (va, numO d2 z t2) :: (e, entO d3 (entHash w.params) ka va) :: (kk, numO d4 k2 t4) :: R) rs') (ho : RowOf rs' c') (hl : rs'.length ≤ rs.length + 1) (hlook : ∀ x, look rs' x = if x = k then some z else look rs x) (hk0 : 0 ≤ k) (hk1 : k < 12)
    {x1 : Obj} {r1 : List Cell} {e1 : Nat} {x4 : Obj} {x5 : Obj}
    (off : ∀ c ∈ led tab x1 na d r1 e1 bag x4 L ol x5 ot R, c.1 ≠ kk) (off1 : ∀ c ∈ (kk, numO d4 k2 t4) :: led tab x1 na d r1 e1 bag x4 L ol x5 ot R, c.1 ≠ e) (off2 : ∀ c ∈ (kk, numO d4 k2 t4) :: led tab x1 na d r1 e1 bag x4 L ol x5 ot R, c.1 ≠ ka) (off3 : ∀ c ∈ (kk, numO d4 k2 t4) :: led tab x1 na d r1 e1 bag x4 L ol x5 ot R, c.1 ≠ va)
    (hb : m' (Str.ofString "bag") = some (.ref bag)) (hnn : m' (Str.ofString "nums") = some (.ref na)) : TurnPost w h₀ L na d bag (n + 1) R s .next { s with heap := h', toks := tk } := by
  have T : ∀ q ∈ led tab x1 na d r1 e1 bag x4 L ol x5 ot R, q ∈ (kk, numO d4 k2 t4) :: led tab x1 na d r1 e1 bag x4 L ol x5 ot R := fun q hq => .tail _ hq
  refine ⟨.inl rfl, h', tk, m', tab, o', ob, ol, ok, ot, kvs', c', rs', bv, ep, [(ka, nameO d1 t1), (va, numO d2 z t2), (e, entO d3 (entHash w.params) ka va), (kk, numO d4 k2 t4)], rfl, F, hb, hnn, fun q hq => N q ?_,
    ⟨lo, isd, fl, bo, b0, hct, ⟨_, hck⟩, ⟨_, hcl⟩, hr, ho, keys_of ho.asc fun x y hq => ?_, by omega, ((((hap.front (q := (kk, numO d4 k2 t4)) (off7 off fun _ h => h)).front (q := (e, entO d3 (entHash w.params) ka va)) (off7 off1 T)).front (q := (va, numO d2 z t2)) (off7 off3 T)).front (q := (ka, nameO d1 t1)) (off7 off2 T))⟩, ?_⟩
  · simp only [List.cons_append, List.nil_append, List.mem_cons] at hq ⊢
    rcases hq with h | h | h | h | h | h | h | h | h | h | h | h
    · exact .inr (.inr (.inr (.inr (.inl h))))
    · exact .inr (.inr (.inr (.inr (.inr (.inl h)))))
    · exact .inr (.inr (.inr (.inr (.inr (.inr (.inl h))))))
    · exact .inr (.inr (.inr (.inr (.inr (.inr (.inr (.inl h)))))))
    · exact .inr (.inr (.inr (.inr (.inr (.inr (.inr (.inr (.inl h))))))))
    · exact .inr (.inr (.inr (.inr (.inr (.inr (.inr (.inr (.inr (.inl h)))))))))
    · exact .inr (.inr (.inr (.inr (.inr (.inr (.inr (.inr (.inr (.inr (.inl h))))))))))
    · exact .inl h
    · exact .inr (.inl h)
    · exact .inr (.inr (.inl h))
    · exact .inr (.inr (.inr (.inl h)))
    · exact .inr (.inr (.inr (.inr (.inr (.inr (.inr (.inr (.inr (.inr (.inr h))))))))))
  · rw [hlook] at hq
    by_cases q : x = k
    · subst q; exact ⟨hk0, hk1⟩
    · rw [if_neg q] at hq; exact keys_look hkeys hq
  · intro q hq r hr'
    simp only [List.mem_cons, List.not_mem_nil, or_false] at hq
    rcases hq with rfl | rfl | rfl | rfl
    · exact offR off2 T r hr'
    · exact offR off3 T r hr'
    · exact offR off1 T r hr'
    · exact offR off (fun _ h => h) r hr'
theorem turn_same {news : List (Addr × Obj)}
    (F : Fr h₀ L h' m') (N : News h₀ L h' news) (sub : ∀ q ∈ led tab otab na d rs ep bag ob L ol ok ot R, q ∈ news)
    (hap : Apart tab na d bag L R) (hkeys : ∀ x ∈ rs, 0 ≤ x.k ∧ x.k < 12) (hlen : rs.length ≤ n) (lo : (tab == sysModules) = false) (hct : ot.data = .cell (some (.ref tab)))
    (hcl : ol.data = .cell vl) (hck : ok.data = .cell vk) (bo : BagObj ob bv) (b0 : 0 ≤ bv) (isd : otab.IsDictOf (PySem.intKind PG w) kvs) (fl : PyProof.V.FlatPairs PyData.int kvs (kdfD c))
    (hr : RowIn (entHash w.params) R rs) (ho : RowOf rs c)
    (hb : m' (Str.ofString "bag") = some (.ref bag)) (hnn : m' (Str.ofString "nums") = some (.ref na)) : TurnPost w h₀ L na d bag (n + 1) R s .next { s with heap := h', toks := tk } :=
  ⟨.inl rfl, h', tk, m', tab, otab, ob, ol, ok, ot, kvs, c, rs, bv, ep, [], rfl, F, hb, hnn, fun q hq => N q (sub q hq),
    ⟨lo, isd, fl, bo, b0, hct, ⟨_, hck⟩, ⟨_, hcl⟩, hr, ho, hkeys, Nat.le_succ_of_le hlen, hap⟩, fun _ h => nomatch h⟩
theorem turn_clr {tab' : Addr} {ot' : Obj} {last : Int} {x1 : Obj} {r1 : List Cell} {e1 : Nat} {x4 x5 x6 x7 : Obj} {l2 : List (Addr × Obj)} {y1 : Obj} {r2 : List Cell} {e2 : Nat} {y4 y5 y6 y7 : Obj}
    (F : Fr h₀ L h' m') (N : News h₀ L h' ((tab', o') :: (kk, numO d4 k2 t4) :: (tab, otab) :: (na, arrO d (vals rs').toArray ep) :: (d, W.dictOf [] 0) :: (bag, ob) :: (L + 1 + 1 + 1, ol) :: (L + 1 + 1, ok) :: (L + 1, ot') :: R))
    (hap : Apart tab na d bag L R) (hkeys : ∀ x ∈ rs, 0 ≤ x.k ∧ x.k < 12) (hlen : rs.length ≤ n) (lo : (tab' == sysModules) = false) (hct : ot'.data = .cell (some (.ref tab')))
    (hcl : ol.data = .cell vl) (hck : ok.data = .cell vk) (bo : BagObj ob bv) (b0 : 0 ≤ bv) (isd : o'.IsDictOf (PySem.intKind PG w) kvs') (fl : PyProof.V.FlatPairs PyData.int kvs' (kdfD c'))
    (hr : RowIn (entHash w.params) ((kk, numO d4 k2 t4) :: R) rs') (ho : RowOf rs' c') (hl : rs'.length ≤ rs.length) (hlook : ∀ x, look rs' x = if k < x ∧ x ≤ last then none else look rs x)
    (off : ∀ c ∈ led tab x1 na d r1 e1 bag x4 L x5 x6 x7 R, c.1 ≠ kk) (off2 : ∀ c ∈ l2, c.1 ≠ tab') (sub2 : ∀ q ∈ led tab y1 na d r2 e2 bag y4 L y5 y6 y7 R, q ∈ l2) (hkt : (kk, numO d4 k2 t4) ∈ l2)
    (hb : m' (Str.ofString "bag") = some (.ref bag)) (hnn : m' (Str.ofString "nums") = some (.ref na)) : TurnPost w h₀ L na d bag (n + 1) R s .next { s with heap := h', toks := tk } := by
  have o := off7 off fun _ h => h
  have hkt' : kk ≠ tab' := off2 _ hkt
  refine ⟨.inl rfl, h', tk, m', tab', o', ob, ol, ok, ot', kvs', c', rs', bv, ep, [(kk, numO d4 k2 t4)], rfl, F, hb, hnn, fun q hq => N q ?_,
    ⟨lo, isd, fl, bo, b0, hct, ⟨_, hck⟩, ⟨_, hcl⟩, hr, ho, keys_of ho.asc fun x y hq => ?_, by omega, (hap.newTab off2 sub2).front (q := (kk, numO d4 k2 t4)) ⟨hkt', o.2⟩⟩, ?_⟩
  · simp only [List.cons_append, List.nil_append, List.mem_cons] at hq ⊢
    rcases hq with h | h | h | h | h | h | h | h | h
    · exact .inl h
    · exact .inr (.inr (.inr (.inl h)))
    · exact .inr (.inr (.inr (.inr (.inl h))))
    · exact .inr (.inr (.inr (.inr (.inr (.inl h)))))
    · exact .inr (.inr (.inr (.inr (.inr (.inr (.inl h))))))
    · exact .inr (.inr (.inr (.inr (.inr (.inr (.inr (.inl h)))))))
    · exact .inr (.inr (.inr (.inr (.inr (.inr (.inr (.inr (.inl h))))))))
    · exact .inr (.inl h)
    · exact .inr (.inr (.inr (.inr (.inr (.inr (.inr (.inr (.inr h))))))))
  · rw [hlook] at hq
    by_cases q : k < x ∧ x ≤ last
    · rw [if_pos q] at hq; cases hq
    · rw [if_neg q] at hq; exact keys_look hkeys hq
  · intro q hq r hr'
    rw [List.mem_singleton.mp hq]
    exact offR off (fun _ h => h) r hr'
theorem strip1 {H : Int} {p1 : Addr × Obj} {otab : Obj} (h : RowIn H (p1 :: led tab otab na d rs ep bag ob L ol ok ot R) rs') (isd : otab.IsDictOf (PySem.intKind PG w) kvs) (bo : BagObj ob bv)
    {vt : Option Value} (ct : ot.data = .cell vt) (ck : ok.data = .cell vk) (cl : ol.data = .cell vl) : RowIn H (p1 :: R) rs' := by
  refine h.strip fun q hq hr => ?_
  simp only [List.mem_cons] at hq ⊢
  rcases hq with h1 | rfl | rfl | rfl | rfl | rfl | rfl | rfl | hq
  · exact .inl h1
  · obtain ⟨es, ep', h1, _⟩ := isd
    exact absurd hr (not_cls h1.1)
  · exact absurd hr not_arr
  · exact absurd hr (not_cls rfl)
  · exact absurd hr (not_cls bo.1)
  · exact absurd hr (not_cell cl)
  · exact absurd hr (not_cell ck)
  · exact absurd hr (not_cell ct)
  · exact .inr hq
end
section
variable {w : World} {A : Around} {E : Value → Shared → Prop} {s : Shared} {h₀ : Heap} {L tab : Addr} {m : Str → Option Value} {news : List (Addr × Obj)} {c : List (Int × Int)} {rs : List Cell}
theorem notin_K {Q : Value → Shared → Prop} {k : Int} {tk : Tok} (N : News h₀ L s.heap news) (T : TabIn w news tab c) (ho : RowOf rs c) (q1 : (∀ x ∈ rs, x.k ≠ k) → Q (.bool true) { s with toks := s.toks + 1 })
    (q2 : ∀ pp pre x post, rs = pp ++ post → pp ++ post = pre ++ x :: post → pp = pre ++ [x] → x.k = k → Q (.bool false) { s with toks := s.toks + 1 }) :
    wpAny (model PG w) A (compareOp .NotIn (.int k tk) (.ref tab)) Q E s := by
  refine kdf_notin (T.at N) ?_
  cases q : kdfHas c k with
  | false =>
    refine q1 fun x hx e => ?_
    have := (ho.look x hx).1
    rw [e, q] at this
    cases this
  | true =>
    rw [has_iff, ← rowOf_tell ho] at q
    cases r : look rs k with
    | none => rw [r] at q; cases q
    | some n =>
      obtain ⟨x, hx, e, _⟩ := look_some r
      obtain ⟨pre, post, e2⟩ := List.append_of_mem hx
      exact q2 (pre ++ [x]) pre x post (by rw [e2]; simp) (by simp) rfl e
theorem sortB_K {Q : Value → Shared → Prop} {D : Addr} {ys : List Value} {k : Int} {pre post : List Cell} {x : Cell} (F : Fr h₀ L s.heap m) (N : News h₀ L s.heap news) (hD : (D, lst ys) ∈ news) (hI : IntsAre ys (behOf c k c.length)) (ho : RowOf rs c) (hs : rs = pre ++ x :: post) (hk : x.k = k) (hz : c.length < 64)
    (h : ∀ B vs n h', Fr h₀ L h' m → News h₀ L h' ((B, listOf vs.toArray n) :: news) → (∀ q ∈ news, q.1 < B) → IntsAre vs (post.map (·.k)) → Q (.ref B) { s with heap := h' }) :
    wpAny (model PG w) A (call (.builtin "sorted") [.ref D]) Q E s := by
  have hlen : (behOf c k c.length).length < 64 := by
    unfold behOf
    rw [List.length_map, List.take_length]
    exact Nat.lt_of_le_of_lt (List.length_filter_le _ _) hz
  refine kso_sorted F N (vs := ys) ⟨_, (N _ hD).1, rfl, _, rfl⟩ hI hlen fun B vs ns n h' F' N' l1 hI' _ hp ho' _ => h B vs n h' F' N' l1 ?_
  rw [← beh_sorted ho hs hk hp ho']
  exact hI'
theorem eqNil0_K {Q : Value → Shared → Prop} {B G : Addr} {vs : List Value} {n g : Nat} (hu : A.units + 64 < cLine) (N : News h₀ L s.heap news) (hB : (B, listOf vs.toArray n) ∈ news) (hI : IntsAre vs []) (hG : (G, listOf #[] g) ∈ news) (h : Q (.bool true) s) :
    wpAny (model PG w) A (compareOp .Eq (.ref B) (.ref G)) Q E s :=
  ke_eq_ints (xs := vs) (ys := []) ⟨_, (N _ hB).1, rfl, _, rfl⟩ ⟨_, (N _ hG).1, rfl, _, rfl⟩ hI .nil hu h
theorem eqNil1_K {Q : Value → Shared → Prop} {B G : Addr} {vs : List Value} {n g : Nat} {k : Int} {r : List Int} (hu : A.units + 64 < cLine) (N : News h₀ L s.heap news) (hB : (B, listOf vs.toArray n) ∈ news) (hI : IntsAre vs (k :: r)) (hG : (G, listOf #[] g) ∈ news) (h : Q (.bool false) s) :
    wpAny (model PG w) A (compareOp .Eq (.ref B) (.ref G)) Q E s :=
  ke_eq_ints (xs := vs) (ys := []) ⟨_, (N _ hB).1, rfl, _, rfl⟩ ⟨_, (N _ hG).1, rfl, _, rfl⟩ hI .nil hu (by simpa using h)
theorem tup0_K {Q : Value → Shared → Prop} {value slice : Expr} {t : Addr} {a b : Value} {u : Tok} {i : Int} (hi : i = 0) (N : News h₀ L s.heap news) (hB : (t, { cls := .type "tuple", data := .seq #[a, b] }) ∈ news) (h : Q a s)
    (hs : subscripted slice false (.ref t) (.int i u) = operate [.ref t, .int i u] (getItem (.ref t) (.int i u)) := by with_unfolding_all rfl) (hg : ∀ r, letTemporaryGo value (.ref t) r = pure () := by intro _; with_unfolding_all rfl) :
    wpAny (model PG w) A (subscriptTail value slice (.ref t) (.int i u)) Q E s := by
  subst hi
  exact item_tuple (items := #[a, b]) (j := 0) ⟨_, (N _ hB).1, rfl, _, rfl⟩ (by decide) (by decide) rfl rfl h hs hg
theorem tup1_K {Q : Value → Shared → Prop} {value slice : Expr} {t : Addr} {a b : Value} {u : Tok} {i : Int} (hi : i = 1) (N : News h₀ L s.heap news) (hB : (t, { cls := .type "tuple", data := .seq #[a, b] }) ∈ news) (h : Q b s)
    (hs : subscripted slice false (.ref t) (.int i u) = operate [.ref t, .int i u] (getItem (.ref t) (.int i u)) := by with_unfolding_all rfl) (hg : ∀ r, letTemporaryGo value (.ref t) r = pure () := by intro _; with_unfolding_all rfl) :
    wpAny (model PG w) A (subscriptTail value slice (.ref t) (.int i u)) Q E s := by
  subst hi
  exact item_tuple (items := #[a, b]) (j := 1) ⟨_, (N _ hB).1, rfl, _, rfl⟩ (by decide) (by decide) rfl rfl h hs hg
theorem next_facts {H : Int} {R : List (Addr × Obj)} {pp r : List Cell} {c2 : Cell} (hr : RowIn H R (pp ++ c2 :: r)) (ho : RowOf (pp ++ c2 :: r) c) : NumIn R c2.ka c2.k ∧ EntIn H R c2.ea c2.n ∧ kdfHas c c2.k = true ∧ kdfLook c c2.k 0 = c2.n := by
  have hm : c2 ∈ pp ++ c2 :: r := List.mem_append_right _ (.head _)
  exact ⟨(hr c2 hm).1, (hr c2 hm).2, (ho.look c2 hm).1, (ho.look c2 hm).2⟩
theorem keys0_K {Q : Value → Shared → Prop} {value slice : Expr} {B : Addr} {vs : List Value} {n n0 : Nat} {pp r : List Cell} {c2 : Cell} {u : Tok} {i : Int} (hi : i = 0) (N : News h₀ L s.heap news) (hB : (B, listOf vs.toArray n) ∈ news) (hI : IntsAre vs ((c2 :: r).map (·.k))) (hl : (pp ++ c2 :: r).length ≤ n0) (hn : n0 < 14)
    (h : ∀ t, Q (.int c2.k t) s)
    (hs : subscripted slice false (.ref B) (.int i u) = operate [.ref B, .int i u] (getItem (.ref B) (.int i u)) := by with_unfolding_all rfl) (hg : ∀ r, letTemporaryGo value (.ref B) r = pure () := by intro _; with_unfolding_all rfl) :
    wpAny (model PG w) A (subscriptTail value slice (.ref B) (.int i u)) Q E s := by
  subst hi
  exact keysSub_K (j := 0) N hB hI rfl rfl (by
    rw [List.length_append] at hl
    rw [List.length_map]; omega) h hs hg
end
section
variable {w : World} {A : Around} {s₁ : Shared} {h₀ : Heap} {L tab : Addr} {m : Str → Option Value} {env : Env} {ct elt : Expr} {x : Str} {scope : Scope} {cl : List (Str × Addr)} {Fin : Shared → List Value → List (Addr × Obj) → Prop} {od ok ol : Obj} {kvs : List (Int × Value)} {c : List (Int × Int)} {news : List (Addr × Obj)} {k last : Int} {tkk tkl : Tok} {rs : List Cell}
theorem SrcD.beh (hh : A.handled = none) (F : Fr h₀ L s₁.heap m) (N : News h₀ L s₁.heap news) (_hk : (L + 1 + 1, ok) ∈ news) (_hck : ok.data = .cell (some (.int k tkk))) (lo : (tab == sysModules) = false) (hm : (tab, od) ∈ news) (hd : od.IsDictOf (PySem.intKind PG w) kvs) (hf : PyProof.V.FlatPairs PyData.int kvs (kdfD c)) (hz : c.length ≤ 400)
    (turn : ∀ i ys p t I oI C oC D m₂ h tk (E' : Value → Shared → Prop), c[i]? = some p → IntsAre ys (behOf c k i) → NsObj oC m₂ → m₂ x = some (.int p.1 t) → Fr h₀ L h m → News h₀ L h ((I, oI) :: (C, oC) :: (D, lst ys) :: news) → Off3 I C D news → ((@Ne Nat I C) ∧ (@Ne Nat I D) ∧ (@Ne Nat C D)) →
      wpAny (model PG w) A (isTrue ct (compEnvC scope cl C env) (eval ct (compEnvC scope cl C env))) (fun ok s' => if ok = true then
        wpAny (model PG w) A (eval elt (compEnvC scope cl C env)) (CompEnd h₀ L m { s₁ with heap := h, toks := tk } I oI C oC D (lst ys) (fun nw => (tab, od) ∈ nw) (fun y nw => BehJ news c k (i + 1) (ys ++ [y]) nw)) E' s'
        else CompEnd h₀ L m { s₁ with heap := h, toks := tk } I oI C oC D (lst ys) (fun nw => (tab, od) ∈ nw) (fun _ nw => BehJ news c k (i + 1) ys nw) Value.none s') E' { s₁ with heap := h, toks := tk })
    (fin : ∀ g ys, IntsAre ys (behOf c k c.length) → Fin { s₁ with heap := g } ys news) : SrcD PG w A h₀ L m env ct elt x scope cl Fin (.ref tab) s₁ :=
  SrcD.intro (BehJ news c k) hh F N lo hm hd hf hz (beh_start _ _ _) (fun i ys nw p t I oI C oC D m₂ h tk E' hp hJ hC hx F' N' off ne => by
    obtain ⟨rfl, hI⟩ := hJ
    exact turn i ys p t I oI C oC D m₂ h tk E' hp hI hC hx F' N' off ne) (fun g ys nw hJ => by
    obtain ⟨rfl, hI⟩ := hJ
    exact fin g ys hI)
theorem SrcD.clr (hh : A.handled = none) (F : Fr h₀ L s₁.heap m) (N : News h₀ L s₁.heap news) (_hk : (L + 1 + 1, ok) ∈ news) (_hck : ok.data = .cell (some (.int k tkk))) (_hl : (L + 1 + 1 + 1, ol) ∈ news) (_hcl : ol.data = .cell (some (.int last tkl))) (lo : (tab == sysModules) = false) (hm : (tab, od) ∈ news) (hd : od.IsDictOf (PySem.intKind PG w) kvs)
    (hf : PyProof.V.FlatPairs PyData.int kvs (kdfD c)) (hz : c.length ≤ 400) (ho : RowOf rs c)
    (turn : ∀ i ys ts p t I oI C oC D m₂ h tk (E' : Value → Shared → Prop), c[i]? = some p → ClrT ts ys (clrOf c k last i) → kdfHas c p.1 = true → kdfLook c p.1 0 = p.2 → NsObj oC m₂ → m₂ x = some (.int p.1 t) → Fr h₀ L h m → News h₀ L h ((I, oI) :: (C, oC) :: (D, lst ys) :: (news ++ ts)) → Off3 I C D (news ++ ts) → ((@Ne Nat I C) ∧ (@Ne Nat I D) ∧ (@Ne Nat C D)) →
      wpAny (model PG w) A (isTrue ct (compEnvC scope cl C env) (eval ct (compEnvC scope cl C env))) (fun ok s' => if ok = true then
        wpAny (model PG w) A (eval elt (compEnvC scope cl C env)) (CompEnd h₀ L m { s₁ with heap := h, toks := tk } I oI C oC D (lst ys) (fun nw => (tab, od) ∈ nw) (fun y nw => ClrK news c k last (i + 1) (ys ++ [y]) nw)) E' s'
        else CompEnd h₀ L m { s₁ with heap := h, toks := tk } I oI C oC D (lst ys) (fun nw => (tab, od) ∈ nw) (fun _ nw => ClrK news c k last (i + 1) ys nw) Value.none s') E' { s₁ with heap := h, toks := tk })
    (fin : ∀ g ys ts, ClrT ts ys (clrOf c k last c.length) → Fin { s₁ with heap := g } ys (news ++ ts)) : SrcD PG w A h₀ L m env ct elt x scope cl Fin (.ref tab) s₁ :=
  SrcD.intro (ClrK news c k last) hh F N lo hm hd hf hz (clrK_start _ _ _ _) (fun i ys nw p t I oI C oC D m₂ h tk E' hp hJ hC hx F' N' off ne => by
    obtain ⟨ts, rfl, hI⟩ := hJ
    exact turn i ys ts p t I oI C oC D m₂ h tk E' hp hI (tab_get ho hp).1 (tab_get ho hp).2 hC hx F' N' off ne) (fun g ys nw hJ => by
    obtain ⟨ts, rfl, hI⟩ := hJ
    exact fin g ys ts hI)
theorem news_drop2 {h : Heap} {a x b c1 c2 c3 c4 c5 c6 c7 : Addr × Obj} {R ts : List (Addr × Obj)} (N : News h₀ L h (a :: x :: b :: c1 :: c2 :: c3 :: c4 :: c5 :: c6 :: c7 :: (R ++ ts))) : News h₀ L h (a :: b :: c1 :: c2 :: c3 :: c4 :: c5 :: c6 :: c7 :: R) := fun q hq => N q (by
  simp only [List.mem_cons, List.mem_append] at hq ⊢
  rcases hq with h | h | h | h | h | h | h | h | h | h
  · exact .inl h
  · exact .inr (.inr (.inl h))
  · exact .inr (.inr (.inr (.inl h)))
  · exact .inr (.inr (.inr (.inr (.inl h))))
  · exact .inr (.inr (.inr (.inr (.inr (.inl h)))))
  · exact .inr (.inr (.inr (.inr (.inr (.inr (.inl h))))))
  · exact .inr (.inr (.inr (.inr (.inr (.inr (.inr (.inl h)))))))
  · exact .inr (.inr (.inr (.inr (.inr (.inr (.inr (.inr (.inl h))))))))
  · exact .inr (.inr (.inr (.inr (.inr (.inr (.inr (.inr (.inr (.inl h)))))))))
  · exact .inr (.inr (.inr (.inr (.inr (.inr (.inr (.inr (.inr (.inr (.inl h)))))))))))
theorem off_drop2 {a : Addr} {x b c1 c2 c3 c4 c5 c6 c7 : Addr × Obj} {R ts : List (Addr × Obj)} (off : ∀ q ∈ x :: b :: c1 :: c2 :: c3 :: c4 :: c5 :: c6 :: c7 :: (R ++ ts), q.1 ≠ a) : ∀ q ∈ b :: c1 :: c2 :: c3 :: c4 :: c5 :: c6 :: c7 :: R, q.1 ≠ a := fun q hq => off q (by
  simp only [List.mem_cons, List.mem_append] at hq ⊢
  rcases hq with h | h | h | h | h | h | h | h | h
  · exact .inr (.inl h)
  · exact .inr (.inr (.inl h))
  · exact .inr (.inr (.inr (.inl h)))
  · exact .inr (.inr (.inr (.inr (.inl h))))
  · exact .inr (.inr (.inr (.inr (.inr (.inl h)))))
  · exact .inr (.inr (.inr (.inr (.inr (.inr (.inl h))))))
  · exact .inr (.inr (.inr (.inr (.inr (.inr (.inr (.inl h)))))))
  · exact .inr (.inr (.inr (.inr (.inr (.inr (.inr (.inr (.inl h))))))))
  · exact .inr (.inr (.inr (.inr (.inr (.inr (.inr (.inr (.inr (.inl h))))))))))
theorem dictClr_K {A : Around} {E : Value → Shared → Prop} {s : Shared} {Q : Value → Shared → Prop} {D : Addr} {ys : List Value} {pre ts : List (Addr × Obj)} (hh : A.handled = none) (F : Fr h₀ L s.heap m) (hbig : h₀.NoLimit) (hT : ClrT ts ys (clrOf c k last c.length)) (ho : RowOf rs c) (hz : c.length ≤ 400) (N : News h₀ L s.heap pre) (hD : (D, lst ys) ∈ pre) (hts : ∀ q ∈ ts, q ∈ pre)
    (h : ∀ d h' tk o kvs, Fr h₀ L h' m → News h₀ L h' ((d, o) :: pre) → (∀ q ∈ pre, q.1 ≠ d) → (d == sysModules) = false → o.IsDictOf (PySem.intKind PG w) kvs → PyProof.V.FlatPairs PyData.int kvs (kdfD (clrOf c k last c.length)) → Q (.ref d) { s with heap := h', toks := tk }) :
    wpAny (model PG w) A (call (.type "dict") [.ref D]) Q E s := by
  have hlen : (clrOf c k last c.length).length ≤ 400 := Nat.le_trans (List.length_filter_le _ _) (by rw [List.take_length]; exact hz)
  have hnd : ((clrOf c k last c.length).map (·.1)).Nodup := by
    unfold clrOf
    rw [List.take_length]
    exact (List.filter_sublist.map _).nodup (rowOf_nodup ho)
  refine dictPairs_K hh F N hbig hD hT.1 hnd hlen (fun j v hv => ?_) fun d h' tk o kvs F' N' l1 lo' hd hf => h d h' tk o kvs F' N' (fun q hq => Nat.ne_of_lt (l1 q hq)) lo' hd hf
  obtain ⟨p, hp, t, ot, n, t1, t2, e1, e2, e3⟩ := hT.2 j v hv
  exact ⟨p, hp, t, ot, n, t1, t2, e1, hts _ e2, e3⟩
end
end Mine
end
section
open PySem PySem.W PySem.W.X PyProof.Rows PyProof.Rows.LCg PyProof.Rows.LCt
set_option maxRecDepth 100000
set_option maxHeartbeats 4000000
namespace Mine
local macro_rules | `(tactic| walk_at "never S25 0") => `(tactic| fail "never")
local macro_rules | `(tactic| walk_at "never S25 1") => `(tactic| fail "never")
local macro_rules | `(tactic| walk_at "never S25 2") => `(tactic| fail "never")
local macro_rules | `(tactic| walk_at "never S25 3") => `(tactic| fail "never")
local macro_rules | `(tactic| walk_at "never S25 4") => `(tactic| fail "never")
local macro_rules | `(tactic| walk_at "never S25 5") => `(tactic| fail "never")
local macro_rules | `(tactic| walk_at "never S25 6") => `(tactic| fail "never")
local macro_rules | `(tactic| walk_at "never S25 7") => `(tactic| fail "never")
local macro_rules | `(tactic| walk_at "never S25 8") => `(tactic| fail "never")
local macro_rules | `(tactic| walk_at "never S25 9") => `(tactic| fail "never")
local macro_rules | `(tactic| walk_at "never S25 10") => `(tactic| fail "never")
local macro_rules | `(tactic| walk_at "never S25 11") => `(tactic| fail "never")
local macro_rules | `(tactic| walk_at "never S25 12") => `(tactic| fail "never")
local macro_rules | `(tactic| walk_at "never S25 13") => `(tactic| fail "never")
local macro_rules | `(tactic| walk_at "never S25 14") => `(tactic| fail "never")
local macro_rules | `(tactic| walk_at "never S25 15") => `(tactic| fail "never")
local macro_rules | `(tactic| walk_at "never S25 16") => `(tactic| fail "never")
local macro_rules | `(tactic| walk_at "never S25 17") => `(tactic| fail "never")
local macro_rules | `(tactic| walk_at "never S25 18") => `(tactic| fail "never")
local macro_rules | `(tactic| walk_at "never S25 19") => `(tactic| fail "never")
local macro_rules | `(tactic| walk_at "never S25 20") => `(tactic| fail "never")
local macro_rules | `(tactic| walk_at "never S25 21") => `(tactic| fail "never")
local macro_rules | `(tactic| walk_at "never S25 22") => `(tactic| fail "never")
local macro_rules | `(tactic| walk_at "never S25 23") => `(tactic| fail "never")
local macro_rules | `(tactic| walk_at "never S25 24") => `(tactic| fail "never")
local macro_rules | `(tactic| walk_at "never S25 25") => `(tactic| fail "never")
local macro_rules | `(tactic| walk_at "never S25 26") => `(tactic| fail "never")
local macro_rules | `(tactic| walk_at "never S25 27") => `(tactic| fail "never")
local macro_rules | `(tactic| walk_at "never S25 28") => `(tactic| fail "never")
local macro_rules | `(tactic| walk_at "never S25 29") => `(tactic| fail "never")
theorem fill21 : hd.heap_39 = hd.heap_39 ∧ PySem.Challenge.rw_ee5012_01 = PySem.Challenge.rw_ee5012_01 := by
  k_fill
  exact ⟨rfl, rfl⟩
theorem off_ne {l : List (Addr × Obj)} {a x : Addr} {o : Obj} (off : ∀ q ∈ l, q.1 ≠ a) (hm : (x, o) ∈ l) : @Ne Nat x a := off _ hm
theorem rowOf_small {rs : List Cell} {c : List (Int × Int)} (ho : RowOf rs c) (h : rs.length ≤ 14) : c.length < 64 := by rw [ho.len]; omega
section
variable {w : World} {s : Shared} {E : Value → Shared → Prop} {h₀ : Heap} {L a : Addr} {m : Str → Option Value}
  {p : Program} {loose : List Str} {mean : ExcName → Option Value} {mg mb : Str → Option Value}
  {name qual : Str} {params : Arguments} {body : List Stmt} {scope : Scope} {dV kV doc pm cdv cd ct oc : Value} {an od : Option Addr} {osl : Array (Option Value)}
local macro_rules | `(tactic| kc_close) => `(tactic| (apply_assumption <;> assumption))
local macro_rules | `(tactic| k_all) => `(tactic| assumption)
local macro_rules | `(tactic| k_ne) => `(tactic| (refine neN ?_; (try dsimp only); first | assumption | exact Ne.symm (by assumption) | exact off_ne (by assumption) (by k_mem) | exact Ne.symm (off_ne (by assumption) (by k_mem)) | exact Nat.ne_of_gt (Nat.lt_succ_self _) | exact Nat.ne_of_gt (Nat.lt_succ_of_lt (Nat.lt_succ_self _)) | exact Nat.ne_of_lt (Nat.lt_succ_self _) | exact Nat.ne_of_lt (Nat.lt_succ_of_lt (Nat.lt_succ_self _)) | fail "k_ne"))
local macro_rules | `(tactic| walk_at "call ref") => `(tactic| (k_here; (with_reducible show wpAny _ _ (call (Value.ref 342) _) _ _ _); (k_dflt (refine' fn_draw (law_room.less (by decide)) (by assumption) (by assumption) (by assumption) (by assumption) (by assumption) (by exact rfl) (by exact rfl) (by exact rfl) (by k_updF) (by assumption) (by assumption) (by decide) (by decide) ?_); intro z' t' bv' o' h' tk' hz0' hz1' hb' ho' F' N'; k_sweep)))
local macro_rules | `(tactic| walk_at "call ref") => `(tactic| (k_here; (with_reducible show wpAny _ _ (call (Value.ref 145) _) _ _ _); (k_dflt (refine' mk_number (Room.ok law_room) (by assumption) (by assumption) (by assumption) ?_); intro kk' d' t' h' tk' F' N' off'; (have ko' := (keyOff_of (by assumption) off' (by intro q hq; repeat (first | exact hq | apply List.Mem.tail))).1); k_sweep)))
local macro_rules | `(tactic| walk_at "call ref") => `(tactic| (k_here; k_dflt (refine' fn_entry (law_room.less (by decide)) (by assumption) (by assumption) (by assumption) (by assumption) (by assumption) (by exact rfl) (by exact rfl) (by exact rfl) ?_); intro e' d' ka' va' d1' t1' d2' t2' h' tk' F' N' off1' off2' off3'; k_sweep))
local macro_rules | `(tactic| walk_at "call ref") => `(tactic| (k_here; (with_reducible show wpAny _ _ (call (Value.ref 45) _) _ _ _); (k_dflt (refine' fn_insert (law_room.less (by decide)) (by assumption) (by assumption) (by assumption) (by assumption) (by assumption) (by exact rfl) (by exact rfl) (by exact rfl) (by k_updF) (by k_mem) ⟨_, _, by k_mem⟩ ⟨_, _, _, _, _, _, _, by k_mem, by k_mem, by k_mem⟩ (RowIn.stay (by assumption) (Stay.of_sub (by intro q hq; repeat (first | exact hq | apply List.Mem.tail)))) (RowOf.asc (by assumption)) (by omega) ?_); intro rs' ep' h' tk' F' N' hr' ha' hl' hlook'; (have hr2' := strip4 hr' (by assumption) (by assumption) (by assumption) (by assumption) (by assumption)); clear hr'; k_sweep)))
local macro_rules | `(tactic| walk_at "setItem ref int") => `(tactic| (k_here; k_dflt (refine' kdf_setItem (by assumption) (by assumption) (by k_updF) (by assumption) (by assumption) (by have := RowOf.len ‹RowOf _ _›; omega) ?_); intro h' o' kvs' F' N' isd' fl'; (have ho2' := rowOf_put (by assumption) (by assumption) (by assumption)); k_sweep))
local macro_rules | `(tactic| walk_at "call ref") => `(tactic| (k_here; (with_reducible show wpAny _ _ (call (Value.ref 356) _) _ _ _); (k_dflt (refine' fn_isrow law_room (by assumption) (by assumption) (by assumption) (by assumption) (by assumption) (by exact rfl) (by exact rfl) (by exact rfl) (by k_mem) (by first | exact RowIn.stay (by assumption) up19 | exact RowIn.stay (by assumption) up47 | exact RowIn.stay (by assumption) (Stay.of_sub (by intro q hq; repeat (first | exact hq | apply List.Mem.tail)))) (by exact ⟨by assumption, _, _, by k_mem, by assumption, by assumption⟩) (by with_reducible assumption) (by omega) (rowOf_small (by with_reducible assumption) (by omega)) ?_); intro h' tk' F' N'; k_sweep)))
local macro_rules | `(tactic| walk_at "call ref") => `(tactic| (k_here; (with_reducible show wpAny _ _ (call (Value.ref 363) _) _ _ _); (k_dflt (first | (refine' refuses_next (law_room.less (by decide)) (by assumption) (by assumption) (by assumption) (by assumption) (by assumption) (by assumption) (by assumption) (by exact rfl) (by exact rfl) (by exact rfl) (by k_mem) (by k_mem) ⟨_, _, by k_mem⟩ (by assumption) ⟨by assumption, by assumption⟩ (RowIn.stay (by assumption) (Stay.of_sub (by intro q hq; repeat (first | exact hq | apply List.Mem.tail)))) (by omega) (by assumption) ?_) | (refine' refuses_clear (law_room.less (by decide)) (by assumption) (by assumption) (by assumption) (by assumption) (by assumption) (by assumption) (by assumption) (by exact rfl) (by exact rfl) (by exact rfl) (by k_mem) (by k_mem) ⟨_, _, by k_mem⟩ (by assumption) ⟨by assumption, by assumption⟩ (by assumption) (by assumption) (RowIn.stay (by assumption) (Stay.of_sub (by intro q hq; repeat (first | exact hq | apply List.Mem.tail)))) (by omega) (by assumption) ?_)); intro h' tk' F' N'; k_sweep)))
local macro_rules | `(tactic| walk_at "compareOp NotIn int ref") => `(tactic| (k_here; (k_dflt (refine' notin_K (by assumption) (by exact ⟨by assumption, _, _, by k_mem, by assumption, by assumption⟩) (by assumption) ?nq1 ?nq2; (case' nq1 => intro hn'); (case' nq2 => (intro pp' pre' x' post' e1' e2' e3' e4'; subst e1'))))))
local macro_rules | `(tactic| walk_at "call ref") => `(tactic| (k_here; (with_reducible show wpAny _ _ (call (Value.ref 52) _) _ _ _); (k_dflt (refine' fn_clear (law_room.less (by decide)) (by assumption) (by assumption) (by assumption) (by assumption) (by assumption) (by exact rfl) (by exact rfl) (by exact rfl) (by k_updF) (by k_mem) ⟨_, _, by k_mem⟩ (by assumption) ⟨by assumption, by assumption⟩ (RowIn.stay (by assumption) (Stay.of_sub (by intro q hq; repeat (first | exact hq | apply List.Mem.tail)))) (RowOf.asc (by assumption)) (by omega) (by assumption) (by assumption) (by assumption) (by omega) ?_); intro rs' ep' h' tk' F' N' hr' ha' hl' hlook'; (have hr2' := strip1 hr' (by assumption) (by assumption) (by assumption) (by assumption) (by assumption)); (have ho2' := rowOf_clear (by assumption) ha' hlook'); clear hr'; k_sweep)))
local macro_rules | `(tactic| walk_at "call ref") => `(tactic| (k_here; (with_reducible show wpAny _ _ (call (Value.ref 59) _) _ _ _); (k_dflt (refine' fn_next (law_room.less (by decide)) (by assumption) (by assumption) (by assumption) (by assumption) (by assumption) (by exact rfl) (by exact rfl) (by exact rfl) (by k_mem) (by k_mem) ⟨_, _, by k_mem⟩ (by assumption) ⟨by assumption, by assumption⟩ (RowIn.stay (by assumption) (Stay.of_sub (by intro q hq; repeat (first | exact hq | apply List.Mem.tail)))) (RowOf.asc (by assumption)) (by omega) (by assumption) (by assumption) ?q1 ?q2); (case' q1 => (intro e1' t' h' tk' F' N' l1'; subst e1')); (case' q2 => (intro c2' r' e1' t' h' tk' F' N' l1'; subst e1'; (obtain ⟨n1', n2', n3', n4'⟩ := next_facts (by assumption) (by assumption)))))))
local macro_rules | `(tactic| walk_at "eval ListComp") => `(tactic| (k_here; (k_dflt (refine ListComp_D (by k_asm) (by with_unfolding_all rfl) (by decide) (by rfl) (by decide) (by rfl) ?_))))
local macro_rules | `(tactic| walk_at "SrcD") => `(tactic| (k_dflt (first
  | (refine' SrcD.clr (by rfl) (by assumption) (by assumption) (by k_mem) (by assumption) (by k_mem) (by assumption) (by assumption) (by k_mem) (by assumption) (by assumption) (Nat.le_of_lt (Nat.lt_trans (rowOf_small (by with_reducible assumption) (by omega)) (by decide))) (by assumption) ?ctu ?cfi; (case' ctu => (intro i' ys' ts' p' t' I' oI' C' oC' D' m' h' tk' E' hp' hT' hh1' hh2' hC' hx' F' N' off' ne'; (simp only [List.cons_append] at N'))); (case' cfi => intro g' ys' ts' hT'))
  | (refine' SrcD.beh (by rfl) (by assumption) (by assumption) (by k_mem) (by assumption) (by assumption) (by k_mem) (by assumption) (by assumption) (Nat.le_of_lt (Nat.lt_trans (rowOf_small (by with_reducible assumption) (by omega)) (by decide))) ?btu ?bfi; (case' btu => (intro i' ys' p' t' I' oI' C' oC' D' m' h' tk' E' hp' hI' hC' hx' F' N' off' ne')); (case' bfi => intro g' ys' hI')))))
local macro_rules | `(tactic| walk_at "CompEnd") => `(tactic| (k_dflt (first
  | exact beh_yes (by assumption) (by assumption) (by assumption) (by k_mem) (by assumption) (by assumption) (by assumption)
  | exact beh_no (by assumption) (by assumption) (by assumption) (by k_mem) (by assumption) (by assumption) (by assumption)
  | exact clrK_yes (by assumption) (by assumption) (by assumption) (by k_mem) (by assumption) (by assumption) (by first | exact .inl (by assumption) | exact .inr (by assumption)) (by assumption)
  | exact clrK_no (by assumption) (by assumption) (by assumption) (by k_mem) (by assumption) (by assumption) (by assumption) (by assumption))))
local macro_rules | `(tactic| walk_at "subscriptTail") => `(tactic| (k_here; k_dflt (first
  | (refine' keys0_K (by rfl) (by assumption) (by k_mem) (by assumption) (by assumption) (by assumption) ?_; intro t')
  | (refine' tabItem_K (by assumption) (by exact ⟨by with_reducible assumption, _, _, by k_mem, by assumption, by assumption⟩) (by assumption) (by assumption) ?_; intro t')); k_sweep))
local macro_rules | `(tactic| walk_at "subscriptTail Name Constant ref int") => `(tactic| (k_here; (k_dflt (first
  | refine' tup0_K (by rfl) (by assumption) (by k_mem) ?_
  | refine' tup1_K (by rfl) (by assumption) (by k_mem) ?_
  | (refine' keys0_K (by rfl) (by assumption) (by k_mem) (by assumption) (by assumption) (by assumption) ?_; intro t')); k_sweep)))
local macro_rules | `(tactic| walk_at "subscriptTail Name Name ref int") => `(tactic| (k_here; k_dflt (refine' tabItem_K (by assumption) (by exact ⟨by with_reducible assumption, _, _, by k_mem, by assumption, by assumption⟩) (by assumption) (by assumption) ?_; intro t'); k_sweep))
local macro_rules | `(tactic| walk_at "call builtin:sorted") => `(tactic| (k_here; (k_dflt (refine' sortB_K (by assumption) (by assumption) (by k_mem) (by assumption) (by assumption) (by assumption) (by assumption) (rowOf_small (by with_reducible assumption) (by omega)) ?_); intro B' vs' n' h' F' N' l1' hI'; k_sweep)))
local macro_rules | `(tactic| walk_at "call type:dict") => `(tactic| (k_here; (k_dflt (refine' dictClr_K (by rfl) (by assumption) (Top.nolimit (by assumption)) (by assumption) (by assumption) (Nat.le_of_lt (Nat.lt_trans (rowOf_small (by with_reducible assumption) (by omega)) (by decide))) (by assumption) (by k_mem) (by intro q hq; repeat (first | exact List.mem_append_right _ hq | apply List.Mem.tail)) ?_); intro d' h' tk' o' kvs' F' N' off2' lo' isd' fl'; (have N2' := news_drop2 N'); (have off3' := off_drop2 off2'); clear N' off2'; k_sweep)))
local macro_rules | `(tactic| walk_at "compareOp Eq ref ref") => `(tactic| (k_here; (k_dflt (first
  | refine' eqNil0_K (Nat.le_of_ble_eq_true rfl) (by assumption) (by k_mem) (by assumption) (by k_mem) ?_
  | refine' eqNil1_K (Nat.le_of_ble_eq_true rfl) (by assumption) (by k_mem) (by assumption) (by k_mem) ?_); k_sweep)))
local macro_rules | `(tactic| walk_at "compareOp NotEq ref") => `(tactic| (k_here; (k_dflt (first
  | (refine' neNI_K (Room.ok (n := 0) (law_room.less (by decide))) (by assumption) (by assumption) (by assumption) (NumIn.stay (by assumption) (Stay.of_sub (by intro q hq; repeat (first | exact hq | apply List.Mem.tail)))) ?_; intro tk')
  | (refine' neEnt_K (law_room.less (by decide)) (by assumption) (by assumption) (by assumption) (by assumption) (.tail _ (.tail _ (.head _))) (.head _) (.tail _ (.head _)) (off_sub (by assumption) (by intro q hq; repeat (first | exact hq | apply List.Mem.tail))) (off_sub (by assumption) (by intro q hq; repeat (first | exact hq | apply List.Mem.tail))) (by intro q hq; repeat (first | exact hq | apply List.Mem.tail)) ?_; intro h' tk' F' N')); k_sweep)))
theorem law_turn {tab na d bag : Addr} {otab ob ol ok ot : Obj} {kvs : List (Int × Value)} {c : List (Int × Int)} {rs : List Cell} {bv : Int} {ep n : Nat} {R : List (Addr × Obj)} {u : Str → Option Value} {ti : Int} {tt : Tok}
    (ho : (hd.heap_39 w.params).lookup 368 = some ⟨oc, od, .func (fnOf name qual params body scope dV kV doc pm an cdv ct), osl⟩)
    (B : Below callerA h₀ [] h₀) (X₀ : (hd.heap_39 w.params).In h₀) (T : Top p loose mean mg mb h₀) (S : TurnSt w L na d bag tab otab ob ol ok ot kvs c rs bv n R) (hn : n < 14)
    (F : Fr h₀ L s.heap (fun y => if y = Str.ofString "turn" then some (.int ti tt) else (if y = Str.ofString "bag" then some (.ref bag) else if y = Str.ofString "nums" then some (.ref na) else u y)))
    (N : News h₀ L s.heap (led tab otab na d rs ep bag ob L ol ok ot R)) :
    wpAny (model PG w) (callerA.deeper (envOfC qual scope L a cd)) (execs (forBody body) (envOfC qual scope L a cd)) (TurnPost w h₀ L na d bag (n + 1) R s) E s := by
  refine lit_elim ho (by k_is) fun e => ?_
  cases e
  obtain ⟨lo, isd, fl, bo, b0, hct, ⟨vk, hck⟩, ⟨vl, hcl⟩, hrow, hof, hkeys, hlen, hap, hoff⟩ := S
  have hap' : Apart tab na d bag L R := ⟨hap, hoff⟩
  have o1 : ∀ q ∈ R, q.1 ≠ tab := fun q hq => (hoff q hq).1
  have o2 : ∀ q ∈ R, q.1 ≠ na := fun q hq => (hoff q hq).2.1
  have o3 : ∀ q ∈ R, q.1 ≠ d := fun q hq => (hoff q hq).2.2.1
  have o4 : ∀ q ∈ R, q.1 ≠ bag := fun q hq => (hoff q hq).2.2.2.1
  have o5 : ∀ q ∈ R, q.1 ≠ L + 1 + 1 + 1 := fun q hq => (hoff q hq).2.2.2.2.1
  have o6 : ∀ q ∈ R, q.1 ≠ L + 1 + 1 := fun q hq => (hoff q hq).2.2.2.2.2.1
  have o7 : ∀ q ∈ R, q.1 ≠ L + 1 := fun q hq => (hoff q hq).2.2.2.2.2.2
  clear hoff
  obtain ⟨a1, a2, a3, a4, a5, a6, a7, a8, a9, a10, a11, a12, a13, a14, a15, a16, a17, a18⟩ := hap
  dsimp only [forBody, forOf, List.findSome?, Option.getD]
  k_steps
  all_goals first
    | exact turn_same (by assumption) (by assumption) (by intro q hq; repeat (first | exact hq | apply List.Mem.tail)) hap' (by assumption) (by assumption) (by assumption) (by assumption) (by assumption) (by assumption) (by assumption) (by assumption) (by assumption) (by assumption) (by assumption) (by assumption) (by exact rfl) (by exact rfl)
    | exact turn_ins (by assumption) (by assumption) hap' (by assumption) (by assumption) (by assumption) (by assumption) (by assumption) (by assumption) (by assumption) (by assumption) (by assumption) (by assumption) (by assumption) (by assumption) (by assumption) (by assumption) (by assumption) (by assumption) (by assumption) (by assumption) (by assumption) (by assumption) (by exact rfl) (by exact rfl)
    | exact turn_clr (by assumption) (by assumption) hap' (by assumption) (by assumption) (by assumption) (by assumption) (by assumption) (by assumption) (by assumption) (by assumption) (by assumption) (by assumption) (by assumption) (by assumption) (by assumption) (by assumption) (by assumption) (by assumption) (by intro q hq; repeat (first | exact hq | apply List.Mem.tail)) (by k_mem) (by exact rfl) (by exact rfl)
end
end Mine
end
section
open PySem PySem.W PySem.W.X PyProof.Rows
set_option maxRecDepth 100000
set_option maxHeartbeats 4000000
namespace Mine
section
variable {prog : Program} {w : World} {A : Around} {E : Value → Shared → Prop} {s : Shared} {env : Env} {h₀ : Heap} {x : Str} {body : List Stmt} {Q : Flow → Shared → Prop}
/-- as range_invG; the loop's own object is an iterator over a range -/
theorem range_invC {r : Addr} {b₀ : Int} {t₀ u₀ v₀ : Tok} {n : Nat} {m₀ : Str → Option Value} {news : List (Addr × Obj)} (J : Nat → (Str → Option Value) → List (Addr × Obj) → Prop)
    (hh : A.handled = none) (hr : IsRange s.heap r 0 b₀ 1 t₀ u₀ v₀) (hsmall : Builtin.Range.small 0 b₀ 1 = true) (hn : Builtin.Range.rangeSize 0 b₀ 1 = (n : Int)) (F : Fr h₀ env.locals s.heap m₀) (N : News h₀ env.locals s.heap news) (hj : J 0 m₀ news)
    (turn : ∀ (i : Nat) t m₁ news₁ h tk own, i < n → OwnOff own (news₁.map (·.1)) → (∀ q ∈ own, q.2.cls = .type "range_iterator") → J i m₁ news₁ → Fr h₀ env.locals h (fun y => if y = x then some (.int (i : Int) t) else m₁ y) → News h₀ env.locals h (news₁ ++ own) →
      wpAny (model prog w) A (execs body env) (InvPostG h₀ env.locals (J (i + 1)) own { s with heap := h, toks := tk } Q) E { s with heap := h, toks := tk })
    (done : ∀ m₁ news₁ h tk, J n m₁ news₁ → Fr h₀ env.locals h m₁ → News h₀ env.locals h news₁ → Q .next { s with heap := h, toks := tk }) :
    wpAny (model prog w) A (pyIter (.ref r)) (fun it s₂ => LoopAtV prog w A h₀ env x body Q E it s₂) E s := by
  refine wpAny_pyIter_range hr hsmall ?_
  have W : Walks prog w A s.heap.objs.size [s.heap.objs.size] [s.heap.objs.size] n (fun i v => i < n ∧ ∃ t, v = .int (0 + i * 1) t)
      (fun i h => IsRangeIter h s.heap.objs.size (0 + (i : Nat) * 1) ((n : Int) - (i : Nat)) 1) := (Walks.range hh _ 0 1 n).bound
  refine ⟨_, _, _, n, _, _, m₀, news, J, rfl, W, ?_, ?_, ?_, (by show IsRangeIter _ _ _ _ _; rw [hn]; simpa using Heap.get?_push_size _ rfl), F.push _, (fun p hp => ⟨Heap.get?_push_of_some _ (N p hp).1, (N p hp).2⟩), hj, ?_, ?_⟩
  · intro hm
    exact absurd F.ns.lt ((List.mem_singleton.mp hm) ▸ Nat.lt_irrefl _)
  · intro b hb
    rw [List.mem_singleton.mp hb]
    exact next_is_new F
  · intro p hp hI
    exact absurd (Heap.lt_size (N p hp).1) ((List.mem_singleton.mp hI) ▸ Nat.lt_irrefl _)
  · rintro i v m₁ news₁ s₁ own ⟨hh', tk', rfl⟩ hin ⟨_, t, hv⟩ hJ hoff hown _ hfp hst F₁ N₁
    have hI0 : h₀.get? s.heap.objs.size = none := next_is_new F
    have hst' : hh'.get? s.heap.objs.size = some _ := hst
    have hIown := hfp _ (List.mem_singleton.mpr rfl) hI0 _ hst'
    have hcls : ∀ q ∈ own, q.2.cls = .type "range_iterator" := by
      intro q hq
      have h1 := List.mem_singleton.mp (hown q hq)
      have h2 := (N₁ q (List.mem_append.mpr (.inl hq))).1
      rw [h1, hst'] at h2
      exact (congrArg Obj.cls (Option.some.inj h2)).symm
    have hsep : OwnOff own (news₁.map (·.1)) := by
      intro p hp b hb e
      obtain ⟨q, hq, rfl⟩ := List.mem_map.mp hb
      have h1 := List.mem_singleton.mp (hown p hp)
      exact hoff q hq (List.mem_singleton.mpr (e ▸ h1))
    have hv' : v = .int (i : Int) t := by rw [hv]; congr 1; omega
    subst hv'
    have N₂ : News h₀ env.locals hh' (news₁ ++ own) := fun p hp => N₁ p ((List.mem_append.mp hp).elim (fun h => List.mem_append.mpr (.inr h)) fun h => List.mem_append.mpr (.inl h))
    refine wpAny_mono (turn i t m₁ news₁ hh' tk' own hin hsep hcls hJ F₁ N₂) (fun f s₂ p => ?_) fun _ _ e => e
    have fin : InvEndG h₀ env.locals (J (i + 1)) own { s with heap := hh', toks := tk' } s₂ → LoopStepU h₀ env.locals [s.heap.objs.size] own (J (i + 1)) { s with heap := hh', toks := tk' } .next s₂ := by
      rintro ⟨h', tk, m', news', nx, e, F', N', hn, ho, ha, hm⟩
      refine ⟨rfl, h', tk, m', nx, e, F', fun p hp => N' p ((List.mem_append.mp hp).elim (ho p) (hn p)), fun p hp hq => ?_, hm⟩
      exact ha _ hIown p.1 (List.mem_map.mpr ⟨p, hp, rfl⟩) (List.mem_singleton.mp hq).symm
    cases f with
    | ret v => exact .ret p
    | brk => exact .brk p
    | next => exact .next (fin p)
    | cont => exact .cont (fin p)
  · rintro h' tk m' news' F' N' _ hJ
    exact done m' news' h' tk hJ F' N'
end
def LawJ (w : World) (L na d bag : Addr) (i : Nat) (m : Str → Option Value) (news : List (Addr × Obj)) : Prop :=
  m (Str.ofString "bag") = some (.ref bag) ∧ m (Str.ofString "nums") = some (.ref na) ∧
    ∃ tab otab ob ol ok ot kvs c rs bv ep R, news = led tab otab na d rs ep bag ob L ol ok ot R ∧ TurnSt w L na d bag tab otab ob ol ok ot kvs c rs bv i R
theorem bagNums {m : Str → Option Value} {bag na : Addr} (hb : m (Str.ofString "bag") = some (.ref bag)) (hn : m (Str.ofString "nums") = some (.ref na)) : (fun y => if y = Str.ofString "bag" then some (.ref bag) else if y = Str.ofString "nums" then some (.ref na) else m y) = m := by
  funext y
  by_cases h1 : y = Str.ofString "bag"
  · rw [if_pos h1, h1, hb]
  · rw [if_neg h1]
    by_cases h2 : y = Str.ofString "nums"
    · rw [if_pos h2, h2, hn]
    · rw [if_neg h2]
theorem range_not {o : Obj} (h : o.cls = .type "range_iterator") : ¬ RowObj o := not_cls h
/-- the turn's state with the loop's own object, and without it -/
theorem TurnSt.with {w : World} {L na d bag tab : Addr} {otab ob ol ok ot : Obj} {kvs : List (Int × Value)} {c : List (Int × Int)} {rs : List Cell} {bv : Int} {n ep : Nat} {R own : List (Addr × Obj)} (S : TurnSt w L na d bag tab otab ob ol ok ot kvs c rs bv n R)
    (off : OwnOff own ((led tab otab na d rs ep bag ob L ol ok ot R).map (·.1))) : TurnSt w L na d bag tab otab ob ol ok ot kvs c rs bv n (R ++ own) := by
  obtain ⟨lo, isd, fl, bo, b0, hct, hck, hcl, hrow, hof, hkeys, hlen, hap, hoff⟩ := S
  refine ⟨lo, isd, fl, bo, b0, hct, hck, hcl, hrow.stay (Stay.of_sub fun q hq => List.mem_append_left _ hq), hof, hkeys, hlen, hap, fun q hq => ?_⟩
  rcases List.mem_append.mp hq with hq | hq
  · exact hoff q hq
  · have o : ∀ b ∈ (led tab otab na d rs ep bag ob L ol ok ot R).map (·.1), q.1 ≠ b := off q hq
    simp only [List.map_cons, List.mem_cons] at o
    exact ⟨o _ (.inl rfl), o _ (.inr (.inl rfl)), o _ (.inr (.inr (.inl rfl))), o _ (.inr (.inr (.inr (.inl rfl)))), o _ (.inr (.inr (.inr (.inr (.inl rfl))))), o _ (.inr (.inr (.inr (.inr (.inr (.inl rfl)))))), o _ (.inr (.inr (.inr (.inr (.inr (.inr (.inl rfl))))))) ⟩
theorem TurnSt.without {w : World} {L na d bag tab : Addr} {otab ob ol ok ot : Obj} {kvs : List (Int × Value)} {c : List (Int × Int)} {rs : List Cell} {bv : Int} {n : Nat} {front R own : List (Addr × Obj)} (S : TurnSt w L na d bag tab otab ob ol ok ot kvs c rs bv n (front ++ (R ++ own)))
    (hcls : ∀ q ∈ own, q.2.cls = .type "range_iterator") : TurnSt w L na d bag tab otab ob ol ok ot kvs c rs bv n (front ++ R) := by
  obtain ⟨lo, isd, fl, bo, b0, hct, hck, hcl, hrow, hof, hkeys, hlen, hap, hoff⟩ := S
  refine ⟨lo, isd, fl, bo, b0, hct, hck, hcl, hrow.strip fun q hq hr => ?_, hof, hkeys, hlen, hap, fun q hq => hoff q ?_⟩
  · rcases List.mem_append.mp hq with hq | hq
    · exact List.mem_append_left _ hq
    · rcases List.mem_append.mp hq with hq | hq
      · exact List.mem_append_right _ hq
      · exact absurd hr (range_not (hcls q hq))
  · rcases List.mem_append.mp hq with hq | hq
    · exact List.mem_append_left _ hq
    · exact List.mem_append_right _ (List.mem_append_left _ hq)
theorem own_off {L na d bag tab : Addr} {otab ob ol ok ot : Obj} {rs : List Cell} {ep : Nat} {front R own : List (Addr × Obj)} (hap : Apart tab na d bag L (front ++ (R ++ own))) (hf : ∀ q ∈ front, ∀ r ∈ R ++ own, r.1 ≠ q.1) (hR : ∀ q ∈ own, ∀ r ∈ R, q.1 ≠ r.1) :
    OwnOff own ((led tab otab na d rs ep bag ob L ol ok ot (front ++ R)).map (·.1)) := by
  intro q hq b hb
  have o := hap.2 q (List.mem_append_right _ (List.mem_append_right _ hq))
  simp only [List.map_cons, List.mem_cons, List.map_append, List.mem_append] at hb
  rcases hb with rfl | rfl | rfl | rfl | rfl | rfl | rfl | hb | hb
  · exact o.1
  · exact o.2.1
  · exact o.2.2.1
  · exact o.2.2.2.1
  · exact o.2.2.2.2.1
  · exact o.2.2.2.2.2.1
  · exact o.2.2.2.2.2.2
  · obtain ⟨y, hy, rfl⟩ := List.mem_map.mp hb
    exact hf y hy q (List.mem_append_right _ hq)
  · obtain ⟨y, hy, rfl⟩ := List.mem_map.mp hb
    exact hR q hq y hy
section
variable {w : World} {s : Shared} {E : Value → Shared → Prop} {h₀ : Heap} {L a : Addr} {m₀ : Str → Option Value} {Q : Flow → Shared → Prop}
  {p : Program} {loose : List Str} {mean : ExcName → Option Value} {mg mb : Str → Option Value}
  {name qual : Str} {params : Arguments} {body : List Stmt} {scope : Scope} {dV kV doc pm cdv cd ct oc : Value} {an od : Option Addr} {osl : Array (Option Value)}
theorem law_loop {tab na d bag r : Addr} {otab ob ol ok ot : Obj} {kvs : List (Int × Value)} {c : List (Int × Int)} {rs : List Cell} {bv : Int} {ep : Nat} {R : List (Addr × Obj)} {t₀ u₀ v₀ : Tok}
    (ho : (hd.heap_39 w.params).lookup 368 = some ⟨oc, od, .func (fnOf name qual params body scope dV kV doc pm an cdv ct), osl⟩)
    (B : Below callerA h₀ [] h₀) (X₀ : (hd.heap_39 w.params).In h₀) (T : Top p loose mean mg mb h₀)
    (hr : IsRange s.heap r 0 14 1 t₀ u₀ v₀) (F : Fr h₀ L s.heap m₀) (N : News h₀ L s.heap (led tab otab na d rs ep bag ob L ol ok ot R)) (S : TurnSt w L na d bag tab otab ob ol ok ot kvs c rs bv 0 R)
    (hb : m₀ (Str.ofString "bag") = some (.ref bag)) (hnn : m₀ (Str.ofString "nums") = some (.ref na))
    (done : ∀ m₁ h tk ol ok ot, Fr h₀ L h m₁ → News h₀ L h [(L + 1 + 1 + 1, ol), (L + 1 + 1, ok), (L + 1, ot)] → Q .next { s with heap := h, toks := tk }) :
    wpAny (model PG w) (callerA.deeper (envOfC qual scope L a cd)) (pyIter (.ref r)) (fun it s₂ => LoopAtV PG w (callerA.deeper (envOfC qual scope L a cd)) h₀ (envOfC qual scope L a cd) (Str.ofString "turn") (forBody body) Q E it s₂) E s := by
  refine range_invC (n := 14) (env := envOfC qual scope L a cd) (LawJ w L na d bag) rfl hr (range_small (n := 14) (by decide)) (range_sz 14) F N ⟨hb, hnn, tab, otab, ob, ol, ok, ot, kvs, c, rs, bv, ep, R, rfl, S⟩ (fun i t m₁ news₁ h tk own hi hoff hcls hJ F₁ N₁ => ?_) fun m₁ news₁ h tk hJ F₁ N₁ => ?_
  · obtain ⟨hb, hnn, tab, otab, ob, ol, ok, ot, kvs, c, rs, bv, ep, R, rfl, S⟩ := hJ
    rw [← bagNums hb hnn] at F₁
    refine wpAny_mono (law_turn (s := { s with heap := h, toks := tk }) (u := m₁) ho B X₀ T (S.with hoff) hi F₁ N₁) (fun f s' q => ?_) fun _ _ e => e
    obtain ⟨hf, h', tk', m', tab', otab', ob', ol', ok', ot', kvs', c', rs', bv', ep', front, rfl, F', hb', hnn', N', S', hfr⟩ := q
    have hRo : ∀ q ∈ own, ∀ r ∈ R, q.1 ≠ r.1 := fun q hq r hr => hoff q hq r.1 (by
      simp only [List.map_cons, List.mem_cons]
      exact .inr (.inr (.inr (.inr (.inr (.inr (.inr (List.mem_map_of_mem hr))))))))
    have fin : InvEndG h₀ L (LawJ w L na d bag (i + 1)) own { s with heap := h, toks := tk } { s with heap := h', toks := tk' } := by
      refine InvEndG.intro F' N' ⟨hb', hnn', tab', otab', ob', ol', ok', ot', kvs', c', rs', bv', ep', front ++ R, rfl, S'.without hcls⟩ (own_off S'.apart hfr hRo) (fun q hq => ?_) fun q hq => ?_
      · simp only [List.mem_cons, List.mem_append] at hq ⊢
        rcases hq with h | h | h | h | h | h | h | h | h
        · exact .inl h
        · exact .inr (.inl h)
        · exact .inr (.inr (.inl h))
        · exact .inr (.inr (.inr (.inl h)))
        · exact .inr (.inr (.inr (.inr (.inl h))))
        · exact .inr (.inr (.inr (.inr (.inr (.inl h)))))
        · exact .inr (.inr (.inr (.inr (.inr (.inr (.inl h))))))
        · exact .inr (.inr (.inr (.inr (.inr (.inr (.inr (.inl h)))))))
        · exact .inr (.inr (.inr (.inr (.inr (.inr (.inr (.inr (.inl h))))))))
      · simp only [List.mem_cons, List.mem_append]
        exact .inr (.inr (.inr (.inr (.inr (.inr (.inr (.inr (.inr hq))))))))
    rcases hf with rfl | rfl
    · exact fin
    · exact fin
  · obtain ⟨_, _, tab, otab, ob, ol, ok, ot, kvs, c, rs, bv, ep, R, rfl, S⟩ := hJ
    refine done m₁ h tk ol ok ot F₁ fun q hq => N₁ q ?_
    simp only [List.mem_cons, List.not_mem_nil, or_false] at hq ⊢
    rcases hq with h | h | h
    · exact .inr (.inr (.inr (.inr (.inl h))))
    · exact .inr (.inr (.inr (.inr (.inr (.inl h)))))
    · exact .inr (.inr (.inr (.inr (.inr (.inr (.inl h))))))
end
end Mine
end
section
open PySem PySem.W PySem.W.X PyProof.Rows
set_option maxRecDepth 100000
set_option maxHeartbeats 80000000
namespace Mine
section
variable {A A₀ : Around} {E : Value → Shared → Prop} {s : Shared} {w : World} {base h₀ : Heap} {outer : List Env} {env : Env} {L : Addr} {m : Str → Option Value} {news : List (Addr × Obj)} {Q : Value → Shared → Prop}
local macro_rules | `(tactic| x_close) => `(tactic| (refine ⟨_, _, _, rfl, (by assumption), ?_⟩; exact ⟨_, _, _, rfl, (by k_mem)⟩))
theorem run_array1 {l : Addr} {a : Addr} {n : Nat} (X : (hd.heap_39 w.params).In s.heap) (hl : s.heap.get? l = some { cls := .type "list", data := .seq #[.ref a] n }) :
    wpAny (model PG w) A9 (call (.ref 260) [.ref l] []) (MadePost s fun v nw => ∃ b d ep, v = .ref b ∧ (b, arrO d #[.ref a] ep) ∈ nw) E s := by
  x_run
theorem run_array2 {l : Addr} {a b : Addr} {n : Nat} (X : (hd.heap_39 w.params).In s.heap) (hl : s.heap.get? l = some { cls := .type "list", data := .seq #[.ref a, .ref b] n }) :
    wpAny (model PG w) A9 (call (.ref 260) [.ref l] []) (MadePost s fun v nw => ∃ b' d ep, v = .ref b' ∧ (b', arrO d #[.ref a, .ref b] ep) ∈ nw) E s := by
  x_run
theorem mk_array1 {l a : Addr} {n : Nat} (R : AOk A) (F : Fr h₀ L s.heap m) (X₀ : (hd.heap_39 w.params).In h₀) (N : News h₀ L s.heap news) (hl : (l, ({ cls := .type "list", data := .seq #[.ref a] n } : Obj)) ∈ news)
    (h : ∀ b d ep h' tk, Fr h₀ L h' m → News h₀ L h' ((b, arrO d #[.ref a] ep) :: news) → Q (.ref b) { s with heap := h', toks := tk }) :
    wpAny (model PG w) A (call (.ref 260) [.ref l] []) Q E s := by
  refine made_K R F N (run_array1 (X₀.keeps F.keep) (N _ hl).1) ?_
  rintro _ nw h' tk ⟨b, d, ep, rfl, hm⟩ F' N' off _
  exact h b d ep h' tk F' (news_one' N' hm)
theorem mk_array2 {l a b : Addr} {n : Nat} (R : AOk A) (F : Fr h₀ L s.heap m) (X₀ : (hd.heap_39 w.params).In h₀) (N : News h₀ L s.heap news) (hl : (l, ({ cls := .type "list", data := .seq #[.ref a, .ref b] n } : Obj)) ∈ news)
    (h : ∀ c d ep h' tk, Fr h₀ L h' m → News h₀ L h' ((c, arrO d #[.ref a, .ref b] ep) :: news) → Q (.ref c) { s with heap := h', toks := tk }) :
    wpAny (model PG w) A (call (.ref 260) [.ref l] []) Q E s := by
  refine made_K R F N (run_array2 (X₀.keeps F.keep) (N _ hl).1) ?_
  rintro _ nw h' tk ⟨c, d, ep, rfl, hm⟩ F' N' off _
  exact h c d ep h' tk F' (news_one' N' hm)
end
end Mine
end
section
open PySem PySem.W PySem.W.X PyProof.Rows
set_option maxRecDepth 100000
set_option maxHeartbeats 4000000
namespace Mine
theorem fill27 : hd.heap_39 = hd.heap_39 ∧ PySem.Challenge.rw_ee5012_01 = PySem.Challenge.rw_ee5012_01 := by
  k_fill
  exact ⟨rfl, rfl⟩
/-- what follows the first for of a suite -/
def tailOf : List Stmt → List Stmt
  | [] => []
  | s :: r => if (forOf s).isSome then r else tailOf r
section
variable {w : World} {s : Shared} {E : Value → Shared → Prop} {h₀ : Heap} {L a : Addr} {m : Str → Option Value}
  {p : Program} {loose : List Str} {mean : ExcName → Option Value} {mg mb : Str → Option Value}
  {name qual : Str} {params : Arguments} {body : List Stmt} {scope : Scope} {dV kV doc pm cdv cd ct oc : Value} {an od : Option Addr} {osl : Array (Option Value)}
local macro_rules | `(tactic| kc_close) => `(tactic| (apply_assumption <;> assumption))
local macro_rules | `(tactic| walk_at "call ref") => `(tactic| (k_here; (with_reducible show wpAny _ _ (call (Value.ref 145) _) _ _ _); (k_dflt (refine' mk_number (Room.ok law_room) (by assumption) (by assumption) (by assumption) ?_); intro kk' d' t' h' tk' F' N' off'; k_sweep)))
local macro_rules | `(tactic| walk_at "call ref") => `(tactic| (k_here; (with_reducible show wpAny _ _ (call (Value.ref 349) _) _ _ _); (k_dflt (refine' fn_entry (law_room.less (by decide)) (by assumption) (by assumption) (by assumption) (by assumption) (by assumption) (by exact rfl) (by exact rfl) (by exact rfl) ?_); intro e' d' ka' va' d1' t1' d2' t2' h' tk' F' N' off1' off2' off3'; k_sweep)))
local macro_rules | `(tactic| walk_at "call ref") => `(tactic| (k_here; (with_reducible show wpAny _ _ (call (Value.ref 260) _) _ _ _); (k_dflt (first | refine' mk_array1 (Room.ok law_room) (by assumption) (by assumption) (by assumption) (by k_mem) ?_ | refine' mk_array2 (Room.ok law_room) (by assumption) (by assumption) (by assumption) (by k_mem) ?_); intro b' d' ep' h' tk' F' N'; k_sweep)))
local macro_rules | `(tactic| walk_at "call ref") => `(tactic| (k_here; (with_reducible show wpAny _ _ (call (Value.ref 363) [Value.ref 45, _, _, _] _) _ _ _); (k_dflt (refine' odd_insert (law_room.less (by decide)) (by assumption) (by assumption) (by assumption) (by assumption) (by assumption) (by assumption) (by assumption) (by exact rfl) (by exact rfl) (by exact rfl) (by k_mem) ?_); intro h' tk' F' N'; k_sweep)))
local macro_rules | `(tactic| walk_at "call ref") => `(tactic| (k_here; (with_reducible show wpAny _ _ (call (Value.ref 363) [Value.ref 59, _, _, _] _) _ _ _); (k_dflt (refine' odd_next (law_room.less (by decide)) (by assumption) (by assumption) (by assumption) (by assumption) (by assumption) (by assumption) (by assumption) (by exact rfl) (by exact rfl) (by exact rfl) (by k_mem) ?_); intro h' tk' F' N'; k_sweep)))
local macro_rules | `(tactic| walk_at "call ref") => `(tactic| (k_here; (with_reducible show wpAny _ _ (call (Value.ref 363) [Value.ref 52, _, Value.int 4 _, _] _) _ _ _); (k_dflt (refine' even_clear (law_room.less (by decide)) (by assumption) (by assumption) (by assumption) (by assumption) (by assumption) (by assumption) (by assumption) (by exact rfl) (by exact rfl) (by exact rfl) (by k_mem) (by exact ⟨_, _, by k_mem⟩) ?_); intro h' tk' F' N'; k_sweep)))
local macro_rules | `(tactic| walk_at "call ref") => `(tactic| (k_here; (with_reducible show wpAny _ _ (call (Value.ref 363) [Value.ref 52, _, Value.int 9 _, _] _) _ _ _); (k_dflt (refine' odd_clear (law_room.less (by decide)) (by assumption) (by assumption) (by assumption) (by assumption) (by assumption) (by assumption) (by assumption) (by exact rfl) (by exact rfl) (by exact rfl) (by k_mem) ?_); intro h' tk' F' N'; k_sweep)))
theorem law_tail {ol ok ot : Obj} {Q : Flow → Shared → Prop}
    (ho : (hd.heap_39 w.params).lookup 368 = some ⟨oc, od, .func (fnOf name qual params body scope dV kV doc pm an cdv ct), osl⟩)
    (B : Below callerA h₀ [] h₀) (X₀ : (hd.heap_39 w.params).In h₀) (T : Top p loose mean mg mb h₀)
    (F : Fr h₀ L s.heap m) (N : News h₀ L s.heap [(L + 1 + 1 + 1, ol), (L + 1 + 1, ok), (L + 1, ot)])
    (h : ∀ m' h' tk, Fr h₀ L h' m' → News h₀ L h' [(L + 1 + 1 + 1, ol), (L + 1 + 1, ok), (L + 1, ot)] → Q (.ret (.bool true)) { s with heap := h', toks := tk }) :
    wpAny (model PG w) (callerA.deeper (envOfC qual scope L a cd)) (execs (tailOf body) (envOfC qual scope L a cd)) Q E s := by
  refine lit_elim ho (by k_is) fun e => ?_
  cases e
  simp only [tailOf, forOf, Option.isSome, if_true, Bool.false_eq_true, if_false]
  k_steps
  all_goals first
    | exact h _ _ _ (by assumption) (fun q hq => ‹News _ _ _ _› q (by repeat (first | exact hq | apply List.Mem.tail)))
end
end Mine
end
section
open PySem PySem.W PySem.W.X PyProof.Rows
set_option maxRecDepth 100000
set_option maxHeartbeats 4000000
namespace Mine
local macro_rules | `(tactic| walk_at "never S28 0") => `(tactic| fail "never")
local macro_rules | `(tactic| walk_at "never S28 1") => `(tactic| fail "never")
local macro_rules | `(tactic| walk_at "never S28 2") => `(tactic| fail "never")
local macro_rules | `(tactic| walk_at "never S28 3") => `(tactic| fail "never")
local macro_rules | `(tactic| walk_at "never S28 4") => `(tactic| fail "never")
local macro_rules | `(tactic| walk_at "never S28 5") => `(tactic| fail "never")
local macro_rules | `(tactic| walk_at "never S28 6") => `(tactic| fail "never")
local macro_rules | `(tactic| walk_at "never S28 7") => `(tactic| fail "never")
local macro_rules | `(tactic| walk_at "never S28 8") => `(tactic| fail "never")
local macro_rules | `(tactic| walk_at "never S28 9") => `(tactic| fail "never")
local macro_rules | `(tactic| walk_at "never S28 10") => `(tactic| fail "never")
local macro_rules | `(tactic| walk_at "never S28 11") => `(tactic| fail "never")
local macro_rules | `(tactic| walk_at "never S28 12") => `(tactic| fail "never")
local macro_rules | `(tactic| walk_at "never S28 13") => `(tactic| fail "never")
local macro_rules | `(tactic| walk_at "never S28 14") => `(tactic| fail "never")
local macro_rules | `(tactic| walk_at "never S28 15") => `(tactic| fail "never")
local macro_rules | `(tactic| walk_at "never S28 16") => `(tactic| fail "never")
local macro_rules | `(tactic| walk_at "never S28 17") => `(tactic| fail "never")
local macro_rules | `(tactic| walk_at "never S28 18") => `(tactic| fail "never")
local macro_rules | `(tactic| walk_at "never S28 19") => `(tactic| fail "never")
local macro_rules | `(tactic| walk_at "never S28 20") => `(tactic| fail "never")
local macro_rules | `(tactic| walk_at "never S28 21") => `(tactic| fail "never")
local macro_rules | `(tactic| walk_at "never S28 22") => `(tactic| fail "never")
local macro_rules | `(tactic| walk_at "never S28 23") => `(tactic| fail "never")
local macro_rules | `(tactic| walk_at "never S28 24") => `(tactic| fail "never")
local macro_rules | `(tactic| walk_at "never S28 25") => `(tactic| fail "never")
local macro_rules | `(tactic| walk_at "never S28 26") => `(tactic| fail "never")
local macro_rules | `(tactic| walk_at "never S28 27") => `(tactic| fail "never")
local macro_rules | `(tactic| walk_at "never S28 28") => `(tactic| fail "never")
local macro_rules | `(tactic| walk_at "never S28 29") => `(tactic| fail "never")
theorem led0 {h₀ h : Heap} {L tab na d bag D : Addr} {otab ob x ol ok ot : Obj} (N : News h₀ L h [(tab, otab), (na, arrO d #[] 0), (d, W.dictOf [] 0), (bag, ob), (D, x), (L + 1 + 1 + 1, ol), (L + 1 + 1, ok), (L + 1, ot)]) : News h₀ L h (led tab otab na d [] 0 bag ob L ol ok ot []) := fun q hq => N q (by
  simp only [List.mem_cons] at hq ⊢
  rcases hq with h | h | h | h | h | h | h | h
  · exact .inl h
  · exact .inr (.inl h)
  · exact .inr (.inr (.inl h))
  · exact .inr (.inr (.inr (.inl h)))
  · exact .inr (.inr (.inr (.inr (.inr (.inl h)))))
  · exact .inr (.inr (.inr (.inr (.inr (.inr (.inl h))))))
  · exact .inr (.inr (.inr (.inr (.inr (.inr (.inr (.inl h)))))))
  · cases h)
theorem start0 {w : World} {L tab na d bag D : Addr} {otab ol ok ot : Obj} {kvs : List (Int × Value)} {v : Int} {t : Tok} {vk vl : Option Value} (lo : (tab == sysModules) = false) (isd : otab.IsDictOf (PySem.intKind PG w) kvs) (fl : PyProof.V.FlatPairs PyData.int kvs []) (b0 : 0 ≤ v)
    (hct : ot.data = .cell (some (.ref tab))) (hck : ok.data = .cell vk) (hcl : ol.data = .cell vl) (o3 : @Ne Nat na d) (o1 : (@Ne Nat bag na) ∧ (@Ne Nat D na) ∧ (@Ne Nat (L + 1 + 1 + 1) na) ∧ (@Ne Nat (L + 1 + 1) na) ∧ (@Ne Nat (L + 1) na))
    (o2 : (@Ne Nat bag d) ∧ (@Ne Nat D d) ∧ (@Ne Nat (L + 1 + 1 + 1) d) ∧ (@Ne Nat (L + 1 + 1) d) ∧ (@Ne Nat (L + 1) d))
    (l2 : (@LT.lt Nat _ na tab) ∧ (@LT.lt Nat _ d tab) ∧ (@LT.lt Nat _ bag tab) ∧ (@LT.lt Nat _ D tab) ∧ (@LT.lt Nat _ (L + 1 + 1 + 1) tab) ∧ (@LT.lt Nat _ (L + 1 + 1) tab) ∧ (@LT.lt Nat _ (L + 1) tab))
    (l1 : (@LT.lt Nat _ D bag) ∧ (@LT.lt Nat _ (L + 1 + 1 + 1) bag) ∧ (@LT.lt Nat _ (L + 1 + 1) bag) ∧ (@LT.lt Nat _ (L + 1) bag)) :
    TurnSt w L na d bag tab otab (W.listOf #[.int v t] 0) ol ok ot kvs [] [] v 0 [] :=
  ⟨lo, isd, fl, ⟨rfl, _, _, rfl⟩, b0, hct, ⟨_, hck⟩, ⟨_, hcl⟩, fun _ h => (nomatch h), ⟨.nil, .refl _, fun _ h => (nomatch h)⟩, fun _ h => (nomatch h), Nat.le_refl _,
    ⟨⟨Nat.ne_of_gt l2.1, Nat.ne_of_gt l2.2.1, Nat.ne_of_gt l2.2.2.1, o3, Ne.symm o1.1, Ne.symm o2.1, Nat.ne_of_gt l2.2.2.2.2.1, Nat.ne_of_gt l2.2.2.2.2.2.1, Nat.ne_of_gt l2.2.2.2.2.2.2, Ne.symm o1.2.2.1, Ne.symm o1.2.2.2.1, Ne.symm o1.2.2.2.2,
      Ne.symm o2.2.2.1, Ne.symm o2.2.2.2.1, Ne.symm o2.2.2.2.2, Nat.ne_of_gt l1.2.1, Nat.ne_of_gt l1.2.2.1, Nat.ne_of_gt l1.2.2.2⟩, fun _ h => nomatch h⟩⟩
theorem bag_pos (a : Int) : 0 ≤ a.fmod (10 ^ Int.toNat 200) := fmod_lo a (Int.pow_pos (by decide))
section
variable {w : World} {s : Shared} {E : Value → Shared → Prop} {h₀ : Heap} {L a : Addr} {m₀ : Str → Option Value} {Q : Flow → Shared → Prop}
  {p : Program} {loose : List Str} {mean : ExcName → Option Value} {mg mb : Str → Option Value}
  {name qual : Str} {params : Arguments} {body bd : List Stmt} {scope : Scope} {dV kV doc pm cdv cd ct oc : Value} {an od : Option Addr} {osl : Array (Option Value)}
theorem law_loop' {tab na d bag r : Addr} {otab ob ol ok ot : Obj} {kvs : List (Int × Value)} {c : List (Int × Int)} {rs : List Cell} {bv : Int} {ep : Nat} {R : List (Addr × Obj)} {t₀ u₀ v₀ : Tok}
    (F : Fr h₀ L s.heap m₀) (B : Below callerA h₀ [] h₀) (X₀ : (hd.heap_39 w.params).In h₀) (T : Top p loose mean mg mb h₀)
    (hr : IsRange s.heap r 0 14 1 t₀ u₀ v₀) (N : News h₀ L s.heap (led tab otab na d rs ep bag ob L ol ok ot R)) (S : TurnSt w L na d bag tab otab ob ol ok ot kvs c rs bv 0 R)
    (hb : m₀ (Str.ofString "bag") = some (.ref bag)) (hnn : m₀ (Str.ofString "nums") = some (.ref na))
    (ho : (hd.heap_39 w.params).lookup 368 = some ⟨oc, od, .func (fnOf name qual params body scope dV kV doc pm an cdv ct), osl⟩) (hbd : forBody body = bd)
    (done : ∀ m₁ h tk ol ok ot, Fr h₀ L h m₁ → News h₀ L h [(L + 1 + 1 + 1, ol), (L + 1 + 1, ok), (L + 1, ot)] → Q .next { s with heap := h, toks := tk }) :
    wpAny (model PG w) (callerA.deeper (envOfC qual scope L a cd)) (pyIter (.ref r)) (fun it s₂ => LoopAtV PG w (callerA.deeper (envOfC qual scope L a cd)) h₀ (envOfC qual scope L a cd) (Str.ofString "turn") bd Q E it s₂) E s := by
  subst hbd
  exact law_loop ho B X₀ T hr F N S hb hnn done
theorem law_tail' {ol ok ot : Obj} {Q : Flow → Shared → Prop} {tl : List Stmt} (F : Fr h₀ L s.heap m₀) (N : News h₀ L s.heap [(L + 1 + 1 + 1, ol), (L + 1 + 1, ok), (L + 1, ot)])
    (B : Below callerA h₀ [] h₀) (X₀ : (hd.heap_39 w.params).In h₀) (T : Top p loose mean mg mb h₀)
    (ho : (hd.heap_39 w.params).lookup 368 = some ⟨oc, od, .func (fnOf name qual params body scope dV kV doc pm an cdv ct), osl⟩) (hbd : tailOf body = tl)
    (h : ∀ m' h' tk, Fr h₀ L h' m' → News h₀ L h' [(L + 1 + 1 + 1, ol), (L + 1 + 1, ok), (L + 1, ot)] → Q (.ret (.bool true)) { s with heap := h', toks := tk }) :
    wpAny (model PG w) (callerA.deeper (envOfC qual scope L a cd)) (execs tl (envOfC qual scope L a cd)) Q E s := by
  subst hbd
  exact law_tail ho B X₀ T F N h
end
local macro_rules | `(tactic| walk_at "call ref") => `(tactic| (k_here; (with_reducible show wpAny _ _ (call (Value.ref 260) _) _ _ _); (k_dflt (refine' mk_array0 (Room.ok law_room) (by assumption) (by assumption) (by assumption) ?_); intro a' d' h' tk' F' N' off1' off2' off3'; (have o1' := allNe_of off1'); (have o2' := allNe_of off2'); (have o3' := ne_nat off3'); (simp only [AllNe, and_true] at o1' o2'); clear off1' off2' off3'; k_sweep)))
local macro_rules | `(tactic| walk_at "eval Dict nil nil") => `(tactic| (k_here; (rename Fr _ _ _ _ => lF'); k_dflt (refine' newDict_K lF' ?k2 (TopRead.nolimit (topRead_of (by assumption))) ?_; (case k2 => k_asm)); clear lF'; intro d' h' o' F' N' l1 lo' hs' fs' hi' fi'; (have l2 := allLt_of l1); (simp only [AllLt, and_true] at l2); clear l1; (try k_sweep)))
local macro_rules | `(tactic| walk_at "call type:range") => `(tactic| (k_here; (rename Fr _ _ _ _ => lF'); (rename News _ _ _ _ => lN'); (with_unfolding_all refine range1_rows lF' lN' ?_); clear lF' lN'; intro h' tk' t1' u1' v1' hr' F' N' kp'))
local macro_rules | `(tactic| walk_at "pyIter ref") => `(tactic| (k_here; (have hr' := (by assumption : IsRange _ _ 0 14 1 _ _ _)); (rename Fr _ _ _ _ => lF'); (rename News _ _ _ _ => lN'); (k_dflt ((refine' law_loop' lF' (by assumption) (by assumption) (by assumption) (by assumption) (led0 lN') (start0 (by assumption) (by assumption) (by assumption) (bag_pos _) (by assumption) (by assumption) (by assumption) (by assumption) (by assumption) (by assumption) (by assumption) (by assumption)) (by rfl) (by rfl) (by k_is) (by rfl) ?_); clear lF' lN'; intro m₁ h tk ol ok ot F N; (show wpAny _ _ (execs _ _) _ _ _); (refine' law_tail' F N (by assumption) (by assumption) (by assumption) (by k_is) (by rfl) ?_); clear F N; intro m' h' tk' F' N'))))
theorem t28 : PySem.Challenge.rw_ee5012_01.Holds := hd (by
  k_go0
  all_goals try k_fold
  k_with "pyIter ref" => k_state (fun pre n => True) "n"
  k_steps)
end Mine
end
theorem PySem.Challenge.cw_ee5012_01_holds : PySem.Challenge.rw_ee5012_01.Holds :=
  Mine.t28
