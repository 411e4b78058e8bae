import PyProof.Rows.All
import Wide.All
import OpenK.AllK
import Wide.FinOn
import PySem.Challenge.RW_ny0066_01
set_option Elab.async false
section
open PySem PySem.W PyProof.Rows
namespace Mine
set_option maxRecDepth 100000 in
set_option maxHeartbeats 8000000 in
open_top hd for PySem.Challenge.rw_ny0066_01
end Mine
end
section
open PySem PySem.W PyProof.Rows PySem.Calls
set_option maxRecDepth 100000
namespace Mine
noncomputable abbrev looseN : List Str := looseW hd.view_39 [Str.ofString "b2a_base64", Str.ofString "b64encode"]
/-- what every heap of the call holds: the text's own objects, the top's facts -/
structure Wd (w : World) (mean : ExcName → Option Value) (mg mb : Str → Option Value) (h : Heap) : Prop where
  X : (hd.heap_39 w.params).In h
  T : Top hd.view_39 looseN mean mg mb h
theorem Wd.keeps {w : World} {mean : ExcName → Option Value} {mg mb : Str → Option Value} {h h' : Heap} (W : Wd w mean mg mb h) (k : ∀ b o, h.get? b = some o → h'.get? b = some o) : Wd w mean mg mb h' :=
  ⟨W.X.keeps k, W.T.keeps k⟩
/-- room on the stacks -/
structure Rm (k : Nat) (A : Around) : Prop where
  handled : A.handled = none
  depth : A.depth + k ≤ 400
  units : A.units + 3 * k ≤ 1000
theorem Rm.deeper {k : Nat} {A : Around} {env : Env} (R : Rm (k + 1) A) : Rm k (A.deeper env) :=
  ⟨R.handled, by have := R.depth; simp only [Around.deeper]; omega, by have := R.units; simp only [Around.deeper]; omega⟩
theorem Rm.less {j k : Nat} {A : Around} (R : Rm k A) (h : j ≤ k) : Rm j A := ⟨R.handled, by have := R.depth; omega, by have := R.units; omega⟩
section
variable {prog : Program} {w : World} {A : Around} {s : Shared} {K : Frag} {E Q : Value → Shared → Prop}
/-- a plain def entered from any state: its base is the whole heap but the objects named in S -/
theorem enter {name qual : Str} {params : Arguments} {body : List Stmt} {scope : Scope} {dV kV doc pm cdv ct oc : Value} {an od : Option Addr} {osl : Array (Option Value)} {f : Addr} {vals : List Value} {kw : List (Str × Value)} {binds : List (Str × Value)}
    (S : List Addr) (X : K.In s.heap) (hlim : s.heap.NoLimit)
    (ho : K.lookup f = some ⟨oc, od, .func (fnOf name qual params body scope dV kV doc pm an cdv ct), osl⟩) (hcd : codeIn K cdv qual = true) (hroom : A.depth < recursionLimit)
    (hbind : BindsTo s (fnOf name qual params body scope dV kV doc pm an cdv ct) ⟨vals, kw⟩ binds) (hloc : ∀ y ∈ binds, scope.names.lookup y.1 = some .local)
    (h : ∀ L' h₁, L' = s.heap.objs.size → Fr (hideAll s.heap S) L' h₁ (fun y => binds.reverse.lookup y) → (∀ b o, s.heap.get? b = some o → h₁.get? b = some o) →
      wpAny (model prog w) (A.deeper (envOf qual scope L' f cdv)) (execs body (envOf qual scope L' f cdv))
        (fun fl s' => Q (match fl with | .ret v => v | _ => .none) s') (fun _ _ => False)
        { s with heap := h₁, toks := s.toks + binds.length })
    (hco : scope.isCoroutine = false) (hgen : scope.isGenerator = false) (hk : scope.kind = .function)
    (hcell : ∀ x ∈ scope.names, x.2 ≠ .cell) : wpAny (model prog w) A (call (.ref f) vals kw) Q E s := by
  refine wpAny_call ?_
  refine codeAny_call_def (fd := fnOf name qual params body scope dV kV doc pm an cdv ct) (body := body) (binds := binds) hroom (X _ _ ho) rfl hlim (codeRec_of X hcd) rfl hbind hcell hloc (fun h₁ hns hk₁ => ?_) hco hgen hk
  refine wpAny_mono (h s.heap.objs.size h₁ rfl ⟨hns, fun b o e => hk₁ b o (of_hideAll _ e), Nat.le_of_eq (hideAll_size _ _)⟩ hk₁) (fun fl s' x => ?_) fun _ _ x => x.elim
  exact x
end
/-- a name's value laid open -/
theorem Fr_ext {h₀ h : Heap} {L : Addr} {m : Str → Option Value} {x : Str} {v : Value} (F : Fr h₀ L h m) (e : m x = some v) : Fr h₀ L h (fun y => if y = x then some v else m y) := by
  have : (fun y => if y = x then some v else m y) = m := by
    funext y
    by_cases q : y = x
    · rw [if_pos q, q, e]
    · rw [if_neg q]
  rw [this]; exact F
/-- several names' values laid open -/
noncomputable def over : List (Str × Value) → (Str → Option Value) → Str → Option Value
  | [], m => m
  | (x, v) :: r, m => fun y => if y = x then some v else over r m y
noncomputable def OverOk (m : Str → Option Value) : List (Str × Value) → Prop
  | [] => True
  | (x, v) :: r => m x = some v ∧ OverOk m r
theorem over_eq {m : Str → Option Value} : ∀ {l : List (Str × Value)}, OverOk m l → over l m = m
  | [], _ => rfl
  | (x, v) :: r, ⟨e, o⟩ => by
    funext y
    show (if y = x then some v else over r m y) = m y
    rw [over_eq o]
    by_cases q : y = x
    · rw [if_pos q, q, e]
    · rw [if_neg q]
theorem Fr_over {h₀ h : Heap} {L : Addr} {m : Str → Option Value} (l : List (Str × Value)) (F : Fr h₀ L h m) (o : OverOk m l) : Fr h₀ L h (over l m) := by
  rw [over_eq o]; exact F
/-- a new list of ints -/
def NewInts (h h' : Heap) (D : Addr) (ns : List Int) : Prop := h.get? D = none ∧ ∃ vs c, h'.get? D = some (listOf vs c) ∧ IntsAre vs.toList ns
theorem ints_eq {vs : List Value} {ns ns' : List Int} (h : IntsAre vs ns) (e : ns = ns') : IntsAre vs ns' := e ▸ h
theorem ints1 {a : Int} {t : Tok} {ns : List Int} (e : [a] = ns) : IntsAre [.int a t] ns := e ▸ .cons _ _ .nil
theorem ints2 {a b : Int} {t u : Tok} {ns : List Int} (e : [a, b] = ns) : IntsAre [.int a t, .int b u] ns := e ▸ .cons _ _ (.cons _ _ .nil)
theorem ints3 {a b c : Int} {t u v : Tok} {ns : List Int} (e : [a, b, c] = ns) : IntsAre [.int a t, .int b u, .int c v] ns := e ▸ .cons _ _ (.cons _ _ (.cons _ _ .nil))
theorem ints4 {a b c d : Int} {t u v w : Tok} {ns : List Int} (e : [a, b, c, d] = ns) : IntsAre [.int a t, .int b u, .int c v, .int d w] ns := e ▸ .cons _ _ (.cons _ _ (.cons _ _ (.cons _ _ .nil)))
section
variable {h₀ h h' : Heap} {L it : Addr} {m : Str → Option Value} {news news' : List (Addr × Obj)} {o o' : Obj}
theorem Fr_but (F : Fr h₀ L h m) (h1 : it ≠ L) (h2 : h₀.get? it = none) (hk : ∀ b o, b ≠ it → h.get? b = some o → h'.get? b = some o) : Fr h₀ L h' m :=
  ⟨F.ns.at' fun o e => hk L o h1.symm e, fun b o e => hk b o (by rintro rfl; rw [h2] at e; cases e) (F.keep b o e), F.above⟩
theorem News_but (N : News h₀ L h news) (U : Upd it o o' news news') (hi : h'.get? it = some o') (hk : ∀ b o, b ≠ it → h.get? b = some o → h'.get? b = some o) : News h₀ L h' news' := by
  obtain ⟨pre, post, e1, e2, a, b⟩ := U.split
  have hm := N (it, o) (by rw [e1]; exact List.mem_append_right _ (.head _))
  intro p hp
  rw [e2] at hp
  rcases List.mem_append.mp hp with q | q
  · have x := N p (by rw [e1]; exact List.mem_append_left _ q)
    exact ⟨hk _ _ (a p q) x.1, x.2⟩
  · rcases List.mem_cons.mp q with rfl | q
    · exact ⟨hi, hm.2⟩
    · have x := N p (by rw [e1]; exact List.mem_append_right _ (.tail _ q))
      exact ⟨hk _ _ (b p q) x.1, x.2⟩
theorem Upd_mem (U : Upd it o o' news news') : (it, o) ∈ news := by
  obtain ⟨pre, post, e1, _⟩ := U.split
  rw [e1]; exact List.mem_append_right _ (.head _)
theorem Fr_keeps (F : Fr h₀ L h m) (hk : ∀ b o, h.get? b = some o → h'.get? b = some o) : Fr h₀ L h' m :=
  ⟨F.ns.at' fun o e => hk L o e, fun b o e => hk b o (F.keep b o e), F.above⟩
theorem News_keeps (N : News h₀ L h news) (hk : ∀ b o, h.get? b = some o → h'.get? b = some o) : News h₀ L h' news := fun p hp => ⟨hk _ _ (N p hp).1, (N p hp).2⟩
theorem News_add (F : Fr h₀ L h m) (N : News h₀ L h' news) (hn : h.get? it = none) (hi : h'.get? it = some o) : News h₀ L h' ((it, o) :: news) := by
  intro p hp
  rcases List.mem_cons.mp hp with rfl | hp
  · refine ⟨hi, fun q => ?_, ?_⟩
    · obtain ⟨oL, _, _, hL, _⟩ := F.ns
      have q' : it = L := q
      rw [q', hL] at hn; cases hn
    · cases q : h₀.get? it with
      | none => rfl
      | some x => have := F.keep _ _ q; rw [hn] at this; cases this
  · exact N p hp
end
/-- a goal where the walk is to stop -/
def Stop (P : Prop) : Prop := P
theorem Stop.out {P : Prop} (h : Stop P) : P := h
theorem Stop.on {P : Prop} (h : P) : Stop P := h
theorem passes_false {M : Model} {A : Around} {env : Env} : PassesOwn M A env (fun _ _ => False) := fun _ _ x => x.elim
end Mine
open PySem PySem.W in
theorem Mine.fill : (fun (_ : OpenLaw) (_ : Params → Frag) => True) PySem.Challenge.rw_ny0066_01 Mine.hd.heap_39 := by
  k_fill
  trivial
end
section
open PySem PySem.W PyProof.Rows PySem.Calls
set_option maxRecDepth 100000
namespace Mine
abbrev iterObj (l : Addr) (i : Nat) : Obj := { cls := .type "list_iterator", data := .fields #[.ref l, .int i 0] }
section
variable {prog : Program} {w : World} {A : Around} {E : Value → Shared → Prop} {s : Shared}
/-- iter(list) -/
theorem iter_list {l : Addr} {items : Array Value} {Q : Value → Shared → Prop} (hl : s.heap.IsList l items)
    (hQ : Q (.ref s.heap.objs.size) { s with heap := s.heap.push (iterObj l 0) }) :
    wpAny (model prog w) A (call (.builtin "iter") [.ref l]) Q E s := by
  refine call_function_entry (by decide +kernel) (by decide +kernel) kdk_entry_iter (kdk_args_iter _) ?_
  unfold Builtin.«iter»
  refine wpAny_bind (m := someArgs "iter" 1 2 _) (wpAny_of_eq (a := [Value.ref l]) (by first | rfl | kernel_rfl!) ?_)
  show wpAny _ _ (pyIter (.ref l) >>= _) _ _ _
  refine wpAny_bind (wpAny_pyIter_list hl ?_)
  exact wpAny_pure ⟨_, rfl, hQ⟩
/-- next(list iterator), an item at hand -/
theorem next_list {it l : Addr} {i : Nat} {items : Array Value} {x : Value} {Q : Value → Shared → Prop} (ho : s.heap.get? it = some (iterObj l i)) (hl : s.heap.IsList l items) (hx : items[i]? = some x)
    (hQ : ∀ h', h'.get? it = some (iterObj l (i + 1)) → Heap.SameBut it s.heap h' → Q x { s with heap := h' }) :
    wpAny (model prog w) A (call (.builtin "next") [.ref it]) Q E s := by
  have hit : s.heap.IsListIter it l i := ⟨_, ho, rfl, rfl⟩
  refine call_function_entry (by decide +kernel) (by decide +kernel) kdk_entry_next (kdk_args_next _) ?_
  unfold Builtin.«next»
  refine wpAny_bind (m := someArgs "next" 1 2 _) (wpAny_of_eq (a := [Value.ref it]) (by first | rfl | kernel_rfl!) ?_)
  dsimp only
  refine wpAny_bind (wpAny_specialOf (name := Str.ofString "__next__") hit.typeIs slot_listiter_next.lookup ?_)
  refine wpAny_ite_split (fun hab => absurd hab (by decide)) (fun _ => ?_)
  obtain ⟨ol, hol, _, nl, hdl⟩ := hl
  refine wpAny_bind (wpAny_callSpecial?_slot (name := Str.ofString "__next__") hit.typeIs slot_listiter_next
    (wpAny_call_entry slot_listiter_next hit.typeIs entry_listiter_next ?_ (args_listiter_next _)))
  show wpAny _ _ (field (.ref it) 0 >>= _) _ _ s
  refine wpAny_bind (wpAny_field ho rfl (x := .ref l) rfl ?_)
  show wpAny _ _ (if (Value.ref l == Value.none) = true then _ else _) _ _ s
  rw [if_neg (show ¬ ((Value.ref l == Value.none) = true) from Bool.false_ne_true)]
  show wpAny _ _ (field (.ref it) 1 >>= _) _ _ s
  refine wpAny_bind (wpAny_field ho rfl (x := .int i 0) rfl ?_)
  show wpAny _ _ (seqItems? (.ref l) >>= _) _ _ s
  refine wpAny_bind (wpAny_seqItems hol hdl ?_)
  simp only [Int.toNat_natCast, hx]
  refine wpAny_bind (wpAny_setField ho rfl (by simp) (wpAny_pure ⟨x, rfl, wpAny_pure ⟨_, rfl, hQ _ ?_ (Heap.SameBut.update ..)⟩⟩))
  refine (Heap.get?_update_self _ ho rfl).trans ?_
  simp [Obj.mapFields, rawInt]
/-- the walk of a list iterator from any place on -/
theorem Walks_listFrom (hh : A.handled = none) (I ax : Addr) (hne : ax ≠ I) (items : Array Value) (i₀ : Nat) (hi : i₀ ≤ items.size) :
    Walks prog w A I [I, ax] [I] (items.size - i₀) (fun i v => items[i₀ + i]? = some v) (fun i h => h.IsListIter I ax (i₀ + i) ∧ h.IsList ax items) where
  sub := fun b hb => by simp at hb; simp [hb]
  frame := fun _ _ _ st hk => ⟨st.1.at fun o e => hk I (by simp) o e, st.2.at fun o e => hk ax (by simp) o e⟩
  item := fun i s Q E hlt st hQ => by
    have hlt' : i₀ + i < items.size := by omega
    refine wpAny_pyNext_list_item st.1 st.2 (x := items[i₀ + i]) (by simp [hlt']) fun h' hit' hs' => ?_
    exact hQ _ h' s.toks (by simp [hlt']) ⟨hit', st.2.extBut hs'.extBut hne⟩ fun b o hb e => hs'.extBut b o (fun h => hb (by simp [h])) e
  done := fun s Q E st hQ => wpAny_pyNext_list_end hh st.1 st.2 (by have : i₀ + (items.size - i₀) = items.size := by omega
                                                                    rw [this]; simp) fun h' he' => hQ h' s.toks fun b o hb e => he' b o (fun h => hb (by simp [h])) e
  self := fun _ _ _ _ st hQ => wpAny_pyIter_listiter st.1 hQ
theorem itemsOf_drop {items acc : Array Value} {i₀ n : Nat} (h : ItemsOf (fun i v => items[i₀ + i]? = some v) acc n) (hn : n = items.size - i₀) (hi : i₀ ≤ items.size) : acc.toList = items.toList.drop i₀ := by
  obtain ⟨h1, h2⟩ := h
  apply List.ext_getElem?
  intro j
  rw [List.getElem?_drop]
  by_cases hj : j < acc.size
  · have := h2 j acc[j] (by simp [hj])
    simp only [Array.getElem?_toList]
    rw [this]; simp [hj]
  · have h3 : acc.toList[j]? = none := by simp; omega
    have h4 : items.toList[i₀ + j]? = none := by simp; omega
    rw [h3, h4]
/-- list(list iterator) -/
theorem list_of_iter {it l : Addr} {i : Nat} {items : Array Value} {Q : Value → Shared → Prop} (hh : A.handled = none) (ho : s.heap.get? it = some (iterObj l i)) (hl : s.heap.IsList l items) (hi : i ≤ items.size) (hsz : items.size ≤ sizeLine)
    (hQ : ∀ h' tk' c, h'.get? s.heap.objs.size = some (listOf (items.toList.drop i).toArray c) → (∀ b o, b ≠ it → s.heap.get? b = some o → h'.get? b = some o) → Q (.ref s.heap.objs.size) { s with heap := h', toks := tk' }) :
    wpAny (model prog w) A (call (.type "list") [.ref it]) Q E s := by
  have hit : s.heap.IsListIter it l i := ⟨_, ho, rfl, rfl⟩
  have hne : l ≠ it := by
    rintro rfl
    obtain ⟨o, ho', hc, _⟩ := hl
    rw [ho] at ho'; cases ho'; injection hc with q; exact absurd q (by decide)
  obtain ⟨ol, hol, hlr⟩ := id hl
  have hSit : it < s.heap.objs.size := Heap.lt_size ho
  have hSl : l < s.heap.objs.size := Heap.lt_size hol
  have hSf : s.heap.objs.size ∉ [it, l] := by
    simp only [List.mem_cons, List.not_mem_nil, or_false]
    rintro (e | e)
    · exact Nat.lt_irrefl _ (Nat.lt_of_lt_of_le hSit (Nat.le_of_eq e))
    · exact Nat.lt_irrefl _ (Nat.lt_of_lt_of_le hSl (Nat.le_of_eq e))
  have hSI : s.heap.objs.size ≠ it := fun e => hSf (by rw [e]; exact List.mem_cons_self)
  refine callType_codes (Q₁ := fun obj s₁ => obj = .ref s.heap.objs.size ∧ s₁ = { s with heap := s.heap.push { cls := .type "list", data := .seq #[] } }) F.called_list (F.typeCall_list_1 _) F.entry_list_init
    (code_list_new _ ⟨rfl, rfl⟩) fun obj s₁ h₁ => ?_
  obtain ⟨rfl, rfl⟩ := h₁
  have hS : (s.heap.push { cls := .type "list", data := .seq #[] }).get? s.heap.objs.size = some { cls := .type "list", data := .seq #[] } := Heap.get?_push_size _ rfl
  refine ⟨⟨_, hS, rfl⟩, F.args_list_init_2 _ _, ?_⟩
  show wpAny _ A.in1.in1 (do let old ← Builtin.List.listItems (.ref s.heap.objs.size); Builtin.List.listUpdate (.ref s.heap.objs.size) (fun _ => #[]); letGo old.toList.reverse; Builtin.List.listExtendWith (.ref s.heap.objs.size) (.ref it) .none) _ _ _
  refine wpAny_bind ?_
  unfold Builtin.List.listItems
  refine wpAny_bind (wpAny_seqItems hS rfl (wpAny_pure ?_))
  show wpAny _ A.in1.in1 (updateSeq s.heap.objs.size (fun _ => #[]) >>= fun _ => letGo (#[] : Array Value).toList.reverse >>= fun _ => Builtin.List.listExtendWith (.ref s.heap.objs.size) (.ref it) .none) _ _ _
  refine wpAny_bind (wpAny_updateSeq hS rfl ?_)
  have hS₂ := Heap.get?_update_self (Obj.mapSeq (fun _ => (#[] : Array Value))) hS rfl
  refine wpAny_bind (wpAny_letGo ?_)
  generalize hH : (s.heap.push { cls := .type "list", data := .seq #[] }).update s.heap.objs.size (Obj.mapSeq (fun _ => (#[] : Array Value))) = H at hS₂
  have up : ∀ b o, s.heap.get? b = some o → H.get? b = some o := fun b o e => by
    rw [← hH]
    exact (Heap.get?_update_other _ _ (fun q : s.heap.objs.size = b => Nat.lt_irrefl _ (Nat.lt_of_lt_of_le (Heap.lt_size e) (Nat.le_of_eq q)))).trans (Heap.get?_push_of_some _ e)
  have hit₁ : H.IsListIter it l i := ⟨_, up _ _ ho, rfl, rfl⟩
  have hl₁ : H.IsList l items := ⟨ol, up _ _ hol, hlr⟩
  have hT : ({ s with heap := H } : Shared).TypeIs (.ref it) "list_iterator" := hit₁.typeIs
  have h1 : Builtin.List.listSameRef (.ref s.heap.objs.size) (.ref it) = false := by simp [Builtin.List.listSameRef, hSI]
  unfold Builtin.List.listExtendWith
  refine wpAny_bind (wpAny_typeOf hT ?_)
  rw [if_neg (by rw [h1]; decide)]
  have W := Walks_listFrom (prog := prog) (w := w) (A := A.in1.in1) hh it l hne items i hi
  refine wpAny_bind (W.self 0 _ _ _ ⟨hit₁, hl₁⟩ ?_)
  refine wpAny_bind (wpAny_holding ?_)
  unfold Builtin.List.listLengthHint
  refine wpAny_bind (wpAny_specialOf hT F.nolen_li ?_)
  show wpAny _ A.in1.in1 (specialOf (Value.ref it) (Str.ofString "__length_hint__") >>= _) _ _ _
  refine wpAny_bind (wpAny_specialOf hT F.hint_li ?_)
  (generalize hid : ("list_iterator.__length_hint__" : String) = id0; wp_delta; rw [show splitId id0 = some ("list_iterator", "__length_hint__") from by subst hid; decide +kernel]; subst hid)
  refine wpAny_bind (wpAny_isInstance (b := true) hT (by rw [isSubtype_type]; kernel_rfl) ?_)
  refine wpAny_pure ?_
  rw [if_neg (by decide)]
  refine wpAny_pure ⟨plainId_quiet F.plain_extend_loop _, codeAny_extend_loopS W.toS (by omega) _ hSf _ (items.size - i) 0 _ _ _ rfl (Nat.zero_le _) ⟨hit₁, hl₁⟩ hS₂ (ItemsOf.nil _) fun s' acc' c' hm hS' hacc => ?_⟩
  refine ⟨rfl, ?_⟩
  have hd := itemsOf_drop hacc rfl hi
  have e : s' = { s with heap := s'.heap, toks := s'.toks } := by
    have g1 := hm.gens; have g2 := hm.drawn; have g3 := hm.os
    cases s'; dsimp only at g1 g2 g3 ⊢; rw [g1, g2, g3]
  rw [e]
  refine hQ s'.heap s'.toks c' ?_ fun b o hb ho' => hm.heap b o ?_ (up b o ho')
  · rw [hS', ← hd]
  · simp only [List.mem_cons, List.not_mem_nil, or_false]
    rintro (q | q)
    · exact Nat.lt_irrefl _ (Nat.lt_of_lt_of_le (Heap.lt_size ho') (Nat.le_of_eq q.symm))
    · exact hb q
end
end Mine
end
section
open PySem PySem.W PyProof.Rows PySem.Calls
namespace Mine
theorem b64_val (x : Int) : Builtin.bitAnd x 64 = x / 64 % 2 * 64 := by
  have := kbt_bit x 6
  simp only [Int.reducePow] at this
  exact this
theorem b64_hi {c : Int} (h0 : 0 ≤ c) (h1 : c < 64) : Builtin.bitAnd (c + 64) 64 = 64 := by rw [b64_val]; omega
theorem b64_lo {d : Int} (h0 : 0 ≤ d) (h1 : d < 64) : Builtin.bitAnd d 64 = 0 := by rw [b64_val]; omega
theorem nat_land_lo (k v r : Nat) (h : r < 2 ^ k) : (2 ^ k * v) &&& r = 0 := by
  have e : r = r &&& (2 ^ k - 1) := (Nat.and_two_pow_sub_one_of_lt_two_pow h).symm
  rw [e, Nat.and_comm r, ← Nat.and_assoc, Nat.and_two_pow_sub_one_eq_mod, Nat.mul_mod_right, Nat.zero_and]
theorem and_apart {k : Nat} {v r : Int} (hv : 0 ≤ v) (h0 : 0 ≤ r) (h1 : r < 2 ^ k) : Builtin.bitAnd (v * 2 ^ k) r = 0 := by
  have hp : (0 : Int) < 2 ^ k := kbt_pos k
  have h2 : 0 ≤ v * 2 ^ k := Int.mul_nonneg hv (Int.le_of_lt hp)
  unfold Builtin.bitAnd
  rw [decide_eq_true h2, decide_eq_true h0]
  dsimp only
  have e : (v * 2 ^ k).toNat = 2 ^ k * v.toNat := by
    apply Int.ofNat.inj
    show ((v * 2 ^ k).toNat : Int) = ((2 ^ k * v.toNat : Nat) : Int)
    rw [Int.toNat_of_nonneg h2]
    push_cast
    rw [Int.toNat_of_nonneg hv, Int.mul_comm]
  rw [e, nat_land_lo k _ _ (by
    have : ((r.toNat : Nat) : Int) < ((2 ^ k : Nat) : Int) := by rw [Int.toNat_of_nonneg h0, kbt_cast]; exact h1
    exact_mod_cast this)]
  rfl
theorem or_apart {k : Nat} {v r : Int} (hv : 0 ≤ v) (h0 : 0 ≤ r) (h1 : r < 2 ^ k) : Builtin.bitOr (v * 2 ^ k) r = v * 2 ^ k + r := by
  have e := bitXor_and (v * 2 ^ k) r
  unfold Builtin.bitXor at e
  rw [and_apart hv h0 h1] at e
  omega
end Mine
end
section
local macro_rules | `(tactic| walk_at "no such key 0") => `(tactic| skip)
open PySem PySem.W PyProof.Rows PySem.Calls
set_option maxRecDepth 100000
namespace Mine
section
variable {prog : Program} {w : World} {A : Around} {E : Value → Shared → Prop} {s : Shared} {h₀ : Heap} {L it l : Addr} {m : Str → Option Value} {news news' : List (Addr × Obj)}
theorem next_K {i : Nat} {items : Array Value} {x : Value} {Q : Value → Shared → Prop} (F : Fr h₀ L s.heap m) (N : News h₀ L s.heap news) (hl : s.heap.IsList l items) (hx : items[i]? = some x)
    (U : Upd it (iterObj l i) (iterObj l (i + 1)) news news')
    (h : ∀ h', Fr h₀ L h' m → News h₀ L h' news' → Q x { s with heap := h' }) :
    wpAny (model prog w) A (call (.builtin "next") [.ref it]) Q E s := by
  obtain ⟨pre, post, e1, e2, a, b⟩ := U.split
  have hmem : (it, iterObj l i) ∈ news := by rw [e1]; exact List.mem_append_right _ (.head _)
  have hm := N _ hmem
  refine next_list hm.1 hl hx fun h' hi' hs => ?_
  refine h h' (F.change hs hm.2.1 hm.2.2) ?_
  rw [e2]
  exact (show News h₀ L s.heap (pre ++ (it, iterObj l i) :: post) from e1 ▸ N).setIn a b hs hi'
end
/-- the octets that carry the digits -/
noncomputable def enc : List Int → List Int
  | [] => []
  | [d] => [d]
  | d :: e :: r => (d + 64) :: enc (e :: r)
def val64 (ds : List Int) : Int := ds.foldl (fun a d => a * 64 + d) 0
theorem val64_snoc (ds : List Int) (d : Int) : val64 (ds ++ [d]) = val64 ds * 64 + d := by simp [val64, List.foldl_append]
theorem val64_bound {l : List Int} (h : ∀ d ∈ l, 0 ≤ d ∧ d < 64) (hl : l.length ≤ 4) : 0 ≤ val64 l ∧ val64 l < 16777216 := by
  match l, hl, h with
  | [], _, _ => simp [val64]
  | [a], _, h => have := h a (by simp); simp only [val64, List.foldl]; omega
  | [a, b], _, h => have := h a (by simp); have := h b (by simp); simp only [val64, List.foldl]; omega
  | [a, b, c], _, h => have := h a (by simp); have := h b (by simp); have := h c (by simp); simp only [val64, List.foldl]; omega
  | [a, b, c, d], _, h => have := h a (by simp); have := h b (by simp); have := h c (by simp); have := h d (by simp); simp only [val64, List.foldl]; omega
theorem enc_at (pre : List Int) (d : Int) (post : List Int) (rest : List Int) : (enc (pre ++ d :: post) ++ rest)[pre.length]? = some (if post = [] then d else d + 64) := by
  induction pre with
  | nil => cases post <;> simp [enc]
  | cons a pre ih =>
    cases hq : pre ++ d :: post with
    | nil => simp at hq
    | cons b r =>
      rw [hq] at ih
      show (enc (a :: (pre ++ d :: post)) ++ rest)[pre.length + 1]? = _
      rw [hq]
      simp only [enc, List.cons_append, List.getElem?_cons_succ]
      exact ih
theorem ints_at {vs : List Value} {ns : List Int} (h : IntsAre vs ns) : ∀ {i : Nat} {x : Int}, ns[i]? = some x → ∃ t, vs[i]? = some (.int x t) := by
  induction h with
  | nil => intro i x e; simp at e
  | cons n t _ ih =>
    intro i x e
    cases i with
    | zero => simp at e; exact ⟨t, by simp [e]⟩
    | succ i => simp at e; simpa using ih e
theorem varint_end {a : Int} {v : Int} (hv0 : 0 ≤ v) (h0 : 0 ≤ a % 64) : Builtin.bitOr (v * 2 ^ Int.toNat 6) (Builtin.bitAnd a 63) = v * 64 + a % 64 := by
  rw [bitAnd_m6]
  have h1 : a % 64 < 64 := Int.emod_lt_of_pos _ (by decide)
  exact or_apart (k := 6) hv0 h0 (by simpa using h1)
local macro_rules | `(tactic| walk_at "call builtin:next") => `(tactic| (k_here; (with_reducible show wpAny _ _ (call (Value.builtin "next") [Value.ref _]) _ _ _); k_dflt (refine' next_K ?F ?N ?l ?x ?U ?_; (case F => k_asm); (case N => k_asm); (case U => k_upd); (case l => exact News.isList (by k_asm) (by k_mem)); (case x => k_extra "item"); k_whole); intro h' F' N'; (try k_sweep)))
local macro_rules | `(tactic| walk_at "ite") => `(tactic| k_extra "ite")
local macro_rules | `(tactic| walk_at "exec While BinOp cons nil") => `(tactic| refine Stop.out ?_)
local macro_rules | `(tactic| walk_at "inplaceOp LShift int int") => `(tactic| refine ilshift_int_small (by decide) (by decide) (by k_extra "small") ?_)
local macro_rules | `(tactic| walk_at "inplaceOp BitOr int int") => `(tactic| refine ior_int ?_)
local macro_rules | `(tactic| walk_at "binaryOp BitAnd int int") => `(tactic| refine and_int ?_)
set_option maxHeartbeats 0 in
theorem varint_call {prog : Program} {w : World} {mean : ExcName → Option Value} {mg mb : Str → Option Value} {A : Around} {s : Shared} {E : Value → Shared → Prop} {Q : Value → Shared → Prop} {it l : Addr} {c : Nat} {vs : Array Value} {ds rest : List Int}
    (W : Wd w mean mg mb (hideAll s.heap [it, l])) (R : Rm 0 A) (hi : s.heap.get? it = some (iterObj l 0)) (hl : s.heap.get? l = some (listOf vs c)) (hv : IntsAre vs.toList (enc ds ++ rest))
    (hds : ∀ d ∈ ds, 0 ≤ d ∧ d < 64) (hlen : ds.length ≤ 4) (hne0 : ds ≠ []) (hne : it ≠ l)
    (hQ : ∀ t h' tk', h'.get? it = some (iterObj l ds.length) → (∀ b o, b ≠ it → s.heap.get? b = some o → h'.get? b = some o) → Q (.int (val64 ds) t) { s with heap := h', toks := tk' }) :
    wpAny (model prog w) A (call (.ref 72) [.ref it]) Q E s := by
  obtain ⟨X, T⟩ := W
  obtain ⟨hd', dp, fr, gd, un⟩ := A
  obtain ⟨r1, r2, r3⟩ := R
  dsimp only at r1 r2 r3
  subst r1
  w_on
  have fl2 : (fun (_ : OpenLaw) (_ : Params → Frag) => True) PySem.Challenge.rw_ny0066_01 Mine.hd.heap_39 := by
    k_fill
    trivial
  clear fl2
  refine' enter (K := hd.heap_39 w.params) (binds := [(Str.ofString "iterator", .ref it)]) [it, l] (X.keeps fun b o e => of_hideAll _ e) (T.nolimit.keeps fun b o e => of_hideAll _ e) ?k6 ?k7 ?k8 ?k9 ?kB ?_ ?c2 ?c3 ?c4 ?c5
  case k6 => k_is
  case k7 => k_is
  case k8 => simp only [recursionLimit]; omega
  case k9 => exact BindsTo.of_eq rfl
  case kB => exact locs rfl
  case c2 => exact rfl
  case c3 => exact rfl
  case c4 => exact rfl
  case c5 => decide
  intro L h₁ hL F K1
  have N : News (hideAll s.heap [it, l]) L h₁ [(it, iterObj l 0), (l, listOf vs c)] := by
    intro p hp
    have hlt : ∀ {b o}, s.heap.get? b = some o → b ≠ L := fun {b o} e q => by
      have := Heap.lt_size e; rw [q, hL] at this; exact Nat.lt_irrefl _ this
    rcases List.mem_cons.mp hp with rfl | hp
    · exact ⟨K1 _ _ hi, hlt hi, hideAll_none _ (by simp)⟩
    · obtain rfl := List.mem_singleton.mp hp
      exact ⟨K1 _ _ hl, hlt hl, hideAll_none _ (by simp)⟩
  have hkeep : ∀ h' : Heap, (∀ b o, (hideAll s.heap [it, l]).get? b = some o → h'.get? b = some o) → ∀ b o, b ≠ it → b ≠ l → s.heap.get? b = some o → h'.get? b = some o := fun h' k b o h1 h2 e =>
    k b o (hideAll_get _ e (by simp [h1, h2]))
  generalize hideAll s.heap [it, l] = g at *
  replace hne := neN hne
  obtain ⟨d0, ds', rfl⟩ : ∃ d r, ds = d :: r := by cases ds with | nil => exact absurd rfl hne0 | cons d r => exact ⟨d, r, rfl⟩
  obtain ⟨t0, x0⟩ := ints_at hv (enc_at [] d0 ds' rest)
  have X0 : vs[0]? = some (.int (if ds' = [] then d0 else d0 + 64) t0) := by simpa using x0
  k_with_none
  k_with "item" => first | exact X0 | exact X1
  k_with "small" => exact V1
  k_with "ite" => (first | rw [if_neg (by rw [hb]; decide)] | rw [if_pos (by rw [hb]; decide)])
  k_steps
  refine Stop.on ?_
  refine' While_inv (fun k m news => ∃ pre d post v tv tb, d0 :: ds' = pre ++ d :: post ∧ k = post.length ∧ m (Str.ofString "iterator") = some (.ref it) ∧ m (Str.ofString "b") = some (.int (if post = [] then d else d + 64) tb) ∧ m (Str.ofString "val") = some (.int v tv) ∧ v = val64 (pre ++ [d]) ∧ news = [(it, iterObj l (pre.length + 1)), (l, listOf vs c)]) (by k_asm) (by k_asm) ?h0 ?turn (hE := passes_false)
  case h0 => exact ⟨[], d0, ds', _, _, _, rfl, rfl, rfl, rfl, rfl, by
      have := hds d0 (by simp)
      rw [bitAnd_m6]; simp only [val64, List.nil_append, List.foldl]; split <;> omega, rfl⟩
  case turn =>
    intro k m1 news1 h2 tk2 F2 N2 hJ
    obtain ⟨pre, d, post, v, tv, tb, e1, e2, m1a, m1b, m1c, e3, e4⟩ := hJ
    subst e4
    have hdd := hds d (by rw [e1]; simp)
    have hv1 := val64_bound (l := pre ++ [d]) (fun x hx => hds x (by
      rw [e1]; rcases List.mem_append.mp hx with q | q
      · exact List.mem_append_left _ q
      · rw [List.mem_singleton.mp q]; simp)) (by
      have := congrArg List.length e1
      simp only [List.length_cons, List.length_append] at this hlen ⊢
      simp only [List.length_nil]
      omega)
    rw [← e3] at hv1
    have V1 : v.natAbs < 2 ^ 64 := by omega
    cases post with
    | nil =>
      rw [if_pos rfl] at m1b
      have hb := b64_lo hdd.1 hdd.2
      have F3 := Fr_over [(_, _), (_, _), (_, _)] F2 ⟨m1a, m1b, m1c, trivial⟩
      dsimp only [over] at F3
      clear F2 
      k_steps
      rename Fr _ _ _ _ => F9
      rename News _ _ _ _ => N9
      dsimp only
      have ev : v = val64 (d0 :: ds') := by rw [e3, e1]
      rw [ev]
      refine hQ _ _ _ ?_ fun b o hb e => ?_
      · have := (N9 _ (.head _)).1
        rw [e1, List.length_append]
        exact this
      · by_cases q : b = l
        · rw [q, hl] at e
          rw [q]
          exact (N9 _ (.tail _ (.head _))).1.trans e
        · exact hkeep _ F9.keep b o hb q e
    | cons e r =>
      rw [if_neg (List.cons_ne_nil e r)] at m1b
      have hb := b64_hi hdd.1 hdd.2
      obtain ⟨t1, x1⟩ := ints_at hv (by rw [e1]; exact (by simpa using enc_at (pre ++ [d]) e r rest))
      have X1 : vs[pre.length + 1]? = some (.int (if r = [] then e else e + 64) t1) := by simpa using x1
      have F3 := Fr_over [(_, _), (_, _), (_, _)] F2 ⟨m1a, m1b, m1c, trivial⟩
      dsimp only [over] at F3
      clear F2
      k_steps
      have hee := hds e (by rw [e1]; simp)
      refine WhileStep.intro (n' := r.length) (by k_asm) (by k_asm) (by rw [e2]; simp) ⟨pre ++ [d], e, r, _, _, _, by rw [e1]; simp, rfl, rfl, rfl, rfl, ?_, ?_⟩
      · rw [varint_end hv1.1 (by omega), val64_snoc, e3]
        split <;> omega
      · simp
theorem varint_K {prog : Program} {w : World} {mean : ExcName → Option Value} {mg mb : Str → Option Value} {A : Around} {s : Shared} {E : Value → Shared → Prop} {Q : Value → Shared → Prop} {it l : Addr} {c : Nat} {vs : Array Value} {ds rest : List Int}
    {h₀ : Heap} {L : Addr} {m : Str → Option Value} {news news' : List (Addr × Obj)} (F : Fr h₀ L s.heap m) (N : News h₀ L s.heap news)
    (W : Wd w mean mg mb h₀) (R : Rm 0 A) (U : Upd it (iterObj l 0) (iterObj l ds.length) news news') (hl : (l, listOf vs c) ∈ news) (hv : IntsAre vs.toList (enc ds ++ rest))
    (hds : ∀ d ∈ ds, 0 ≤ d ∧ d < 64) (hlen : ds.length ≤ 4) (hne0 : ds ≠ [])
    (h : ∀ t h' tk', Fr h₀ L h' m → News h₀ L h' news' → Q (.int (val64 ds) t) { s with heap := h', toks := tk' }) :
    wpAny (model prog w) A (call (.ref 72) [.ref it]) Q E s := by
  have hi := N _ (Upd_mem U)
  have hl' := N _ hl
  have hne : it ≠ l := fun q => by
    have a := hi.1; have b := hl'.1
    dsimp only at a b
    rw [q, b] at a; injection a with a; injection a with a; injection a with a; exact absurd a (by decide)
  refine varint_call (W.keeps fun b o e => hideAll_get _ (F.keep b o e) ?_) R hi.1 hl'.1 hv hds hlen hne0 hne fun t h' tk' h1 h2 => h t h' tk' (Fr_but F hi.2.1 hi.2.2 h2) (News_but N U h1 h2)
  simp only [List.mem_cons, List.not_mem_nil, or_false]
  rintro (q | q)
  · have := hi.2.2; dsimp only at this; rw [← q, e] at this; cases this
  · have := hl'.2.2; dsimp only at this; rw [← q, e] at this; cases this
end Mine
end
section
open PySem PySem.W PyProof.Rows PySem.Calls
set_option maxRecDepth 100000
namespace Mine
def digitsOf (n : Int) : List Int :=
  if n < 64 then [n] else if n < 4096 then [n / 64, n % 64] else if n < 262144 then [n / 4096, n / 64 % 64, n % 64] else [n / 262144, n / 4096 % 64, n / 64 % 64, n % 64]
local macro_rules | `(tactic| walk_at "mine arith") => `(tactic| ((try simp only [Int.fmod_eq_emod_of_nonneg _ (by decide : (0 : Int) ≤ 64), Int.fdiv_eq_ediv_of_nonneg _ (by decide : (0 : Int) ≤ 64)]); omega))
local macro_rules | `(tactic| walk_at "WhlIf") => `(tactic| first | refine WhlIf.yes (decide_eq_true (by walk_at "mine arith")) ?_ | refine WhlIf.no (decide_eq_false (by walk_at "mine arith")) ?_)
local macro_rules | `(tactic| walk_at "exec While Compare cons nil") => `(tactic| k_dflt (refine whl_start 10 ?_))
set_option maxHeartbeats 0 in
theorem digits_call {prog : Program} {w : World} {mean : ExcName → Option Value} {mg mb : Str → Option Value} {A : Around} {s : Shared} {E : Value → Shared → Prop} {Q : Value → Shared → Prop} {n : Int} {tk : Tok}
    (W : Wd w mean mg mb s.heap) (R : Rm 0 A) (h0 : 0 ≤ n) (h1 : n < 16777216)
    (hQ : ∀ D h' tk', (∀ b o, s.heap.get? b = some o → h'.get? b = some o) → NewInts s.heap h' D (digitsOf n) → Q (.ref D) { s with heap := h', toks := tk' }) :
    wpAny (model prog w) A (call (.ref 84) [.int n tk]) Q E s := by
  obtain ⟨X, T⟩ := W
  obtain ⟨hd', dp, fr, gd, un⟩ := A
  obtain ⟨r1, r2, r3⟩ := R
  dsimp only at r1 r2 r3
  subst r1
  w_on
  have fl2 : (fun (_ : OpenLaw) (_ : Params → Frag) => True) PySem.Challenge.rw_ny0066_01 Mine.hd.heap_39 := by
    k_fill
    trivial
  clear fl2
  refine' enter (binds := [(Str.ofString "number", .int n tk)]) [] X T.nolimit ?k6 ?k7 ?k8 ?k9 ?kB ?_ ?c2 ?c3 ?c4 ?c5
  case k6 => k_is
  case k7 => k_is
  case k8 => simp only [recursionLimit]; omega
  case k9 => exact BindsTo.of_eq rfl
  case kB => exact locs rfl
  case c2 => exact rfl
  case c3 => exact rfl
  case c4 => exact rfl
  case c5 => decide
  intro L h₁ hL F K1
  have N : News s.heap L h₁ [] := News.nil
  dsimp only [hideAll] at F
  have hc : n < 64 ∨ (64 ≤ n ∧ n < 4096) ∨ (4096 ≤ n ∧ n < 262144) ∨ 262144 ≤ n := by omega
  rcases hc with hc | hc | hc | hc
  all_goals k_steps
  all_goals (
    rename Fr _ _ _ _ => F9
    rename News _ _ _ _ => N9
    dsimp only
    refine hQ _ _ _ F9.keep ⟨(N9 _ (List.Mem.head _)).2.2, _, _, (N9 _ (List.Mem.head _)).1, ?_⟩
    first | refine ints1 ?_ | refine ints2 ?_ | refine ints3 ?_ | refine ints4 ?_
    unfold digitsOf
    simp only [Int.fmod_eq_emod_of_nonneg _ (by decide : (0 : Int) ≤ 64), Int.fdiv_eq_ediv_of_nonneg _ (by decide : (0 : Int) ≤ 64)]
    repeat (first | rw [if_pos (by omega)] | rw [if_neg (by omega)])
    try simp only [List.cons.injEq, and_true]
    omega)
end Mine
end
section
local macro_rules | `(tactic| walk_at "no such key 0") => `(tactic| skip)
local macro_rules | `(tactic| walk_at "no such key 1") => `(tactic| skip)
local macro_rules | `(tactic| walk_at "no such key 2") => `(tactic| skip)
local macro_rules | `(tactic| walk_at "no such key 3") => `(tactic| skip)
open PySem PySem.W PyProof.Rows PySem.Calls
set_option maxRecDepth 100000
namespace Mine
section
variable {prog : Program} {w : World} {A : Around} {E : Value → Shared → Prop} {s : Shared} {h₀ : Heap} {L it l : Addr} {m : Str → Option Value} {news news' : List (Addr × Obj)}
theorem item_last {value slice : PySem.Expr} {items : Array Value} {k : Int} {t : Tok} {x : Value} {Q : Value → Shared → Prop} (hl : s.heap.IsList l items) (h0 : k < 0) (h1 : -(items.size : Int) ≤ k) (hfit : -(2 ^ 63) ≤ k) (hx : items[(k + items.size).toNat]? = some x) (h : Q x s)
    (hs : subscripted slice false (.ref l) (.int k t) = operate [.ref l, .int k t] (getItem (.ref l) (.int k t)) := by with_unfolding_all rfl) :
    wpAny (model prog w) A (subscriptTail value slice (.ref l) (.int k t)) Q E s :=
  tail_any hl.typeIs slot_list_getitem.lookup (wpAny_getItem_list_neg hl h0 h1 hfit hx h) hs
theorem iter_K {items : Array Value} {Q : Value → Shared → Prop} (F : Fr h₀ L s.heap m) (N : News h₀ L s.heap news) (hl : s.heap.IsList l items)
    (h : ∀ I h', Fr h₀ L h' m → News h₀ L h' ((I, iterObj l 0) :: news) → (∀ p ∈ news, p.1 < I) → Q (.ref I) { s with heap := h' }) :
    wpAny (model prog w) A (call (.builtin "iter") [.ref l]) Q E s :=
  iter_list hl (h _ _ (F.push _) (News.push F N _ rfl) fun p hp => Heap.lt_size (N p hp).1)
theorem list_iter_K {items : Array Value} {i c0 : Nat} {Q : Value → Shared → Prop} (F : Fr h₀ L s.heap m) (N : News h₀ L s.heap news) (hh : A.handled = none) (hi : (it, iterObj l i) ∈ news) (hl : (l, listOf items c0) ∈ news) (hi' : i ≤ items.size) (hsz : items.size ≤ sizeLine)
    (h : ∀ D c h' tk', Fr h₀ L h' m → News h₀ L h' [(D, listOf (items.toList.drop i).toArray c)] → Q (.ref D) { s with heap := h', toks := tk' }) :
    wpAny (model prog w) A (call (.type "list") [.ref it]) Q E s := by
  have hi1 := N _ hi
  refine list_of_iter hh hi1.1 ⟨_, (N _ hl).1, rfl, _, rfl⟩ hi' hsz fun h' tk' c h1 h2 => ?_
  refine h _ c h' tk' (Fr_but F hi1.2.1 hi1.2.2 h2) (News_add F News.nil ?_ h1)
  cases q : s.heap.get? s.heap.objs.size with
  | none => rfl
  | some o => exact absurd (Heap.lt_size q) (Nat.lt_irrefl _)
end
local macro_rules | `(tactic| walk_at "call ref cons nil") => `(tactic| refine Stop.out ?_)
local macro_rules | `(tactic| walk_at "call type:list cons nil") => `(tactic| refine Stop.out ?_)
local macro_rules | `(tactic| walk_at "subscriptTail Name UnaryOp ref int") => `(tactic| with_unfolding_all refine item_last (by is_list) (by decide) (by k_extra "lo") (by decide) (by k_extra "last") ?_)
local macro_rules | `(tactic| walk_at "call builtin:iter") => `(tactic| (k_here; (k_dflt (refine' iter_K ?F ?N ?l ?_; (case F => k_asm); (case N => k_asm); (case l => exact News.isList (by k_asm) (by k_mem)); k_whole)); intro D' h' F' N' l1; (try k_lt l1); (try k_sweep)))
theorem ints_drop {vs : List Value} {a b : List Int} (h : IntsAre vs (a ++ b)) (k : Nat) (hk : a.length = k) : IntsAre (vs.drop k) b := by
  subst hk
  induction a generalizing vs with
  | nil => simpa using h
  | cons x r ih => cases h with | cons _ _ h' => simpa using ih h'
theorem ints_two {vs : List Value} {a b : Int} (h : IntsAre vs [a, b]) : ∃ t u, vs = [.int a t, .int b u] := by
  cases h with | cons _ t h => cases h with | cons _ u h => cases h; exact ⟨t, u, rfl⟩
theorem enc_snoc (ds : List Int) (d : Int) : enc (ds ++ [d]) = ds.map (· + 64) ++ [d] := by
  induction ds with
  | nil => rfl
  | cons a r ih =>
    cases hr : r ++ [d] with
    | nil => simp at hr
    | cons b q =>
      show enc (a :: (r ++ [d])) = _
      rw [hr]
      simp only [enc, List.map_cons, List.cons_append]
      rw [← hr, ih]
set_option maxHeartbeats 0 in
theorem read_call {prog : Program} {w : World} {mean : ExcName → Option Value} {mg mb : Str → Option Value} {A : Around} {s : Shared} {E : Value → Shared → Prop} {Q : Value → Shared → Prop} {l : Addr} {vs : List Value} {ds : List Int}
    (W : Wd w mean mg mb s.heap) (R : Rm 1 A) (hl : s.heap.IsList l vs.toArray) (hv : IntsAre vs ds)
    (hds : ∀ d ∈ ds, 0 ≤ d ∧ d < 64) (hlen : ds.length ≤ 4) (hne0 : ds ≠ [])
    (hQ : ∀ D D2 h' tk' t t1 t2 c c2, (∀ b o, s.heap.get? b = some o → h'.get? b = some o) → s.heap.get? D = none → s.heap.get? D2 = none → h'.get? D = some (listOf #[.int (val64 ds) t, .ref D2] c) → h'.get? D2 = some (listOf #[.int 77 t1, .int 13 t2] c2) → Q (.ref D) { s with heap := h', toks := tk' }) :
    wpAny (model prog w) A (call (.ref 89) [.ref l]) Q E s := by
  obtain ⟨X, T⟩ := W
  obtain ⟨hd', dp, fr, gd, un⟩ := A
  obtain ⟨r1, r2, r3⟩ := R
  dsimp only at r1 r2 r3
  subst r1
  w_on
  have fl2 : (fun (_ : OpenLaw) (_ : Params → Frag) => True) PySem.Challenge.rw_ny0066_01 Mine.hd.heap_39 := by
    k_fill
    trivial
  clear fl2
  refine' enter (K := hd.heap_39 w.params) (binds := [(Str.ofString "digits", .ref l)]) [] X T.nolimit ?k6 ?k7 ?k8 ?k9 ?kB ?_ ?c2 ?c3 ?c4 ?c5
  case k6 => k_is
  case k7 => k_is
  case k8 => simp only [recursionLimit]; omega
  case k9 => exact BindsTo.of_eq rfl
  case kB => exact locs rfl
  case c2 => exact rfl
  case c3 => exact rfl
  case c4 => exact rfl
  case c5 => decide
  intro L h₁ hL F K1
  have N : News s.heap L h₁ [] := News.nil
  dsimp only [hideAll] at F
  obtain ⟨ds0, d, rfl⟩ : ∃ ds0 d, ds = ds0 ++ [d] := ⟨ds.dropLast, ds.getLast hne0, (List.dropLast_concat_getLast hne0).symm⟩
  obtain ⟨t0, x0⟩ := ints_at hv (show (ds0 ++ [d])[ds0.length]? = some d by simp)
  have hvl := IntsAre.length hv
  have XL : vs.toArray[((-1 : Int) + vs.toArray.size).toNat]? = some (.int d t0) := by
    simp only [List.size_toArray, List.getElem?_toArray]
    rw [show ((-1 : Int) + vs.length).toNat = ds0.length by simp only [List.length_append, List.length_singleton] at hvl; omega]
    exact x0
  have XO : -(vs.toArray.size : Int) ≤ -1 := by
    simp only [List.size_toArray, List.length_append, List.length_singleton] at hvl ⊢; omega
  k_with_none
  k_with "lo" => exact XO
  k_with "last" => exact XL
  k_steps
  refine Stop.on ?_
  rename IntsAre _ (_ ++ [d, 77, 13]) => hI9
  have hI : IntsAre _ (enc (ds0 ++ [d]) ++ [77, 13]) := ints_eq hI9 (by
    simp only [List.length_append, List.length_singleton, Nat.add_sub_cancel, List.take_left']
    rw [enc_snoc]; simp)
  refine' varint_K ?F ?N ⟨X, T⟩ ?R ?U ?l hI hds hlen hne0 ?_
  case F => k_asm
  case N => k_asm
  case R => exact Rm.deeper (A := ⟨none, dp, fr, gd, un⟩) ⟨rfl, r2, r3⟩
  case l => k_mem
  case U => k_upd
  intro t9 h9 tk9 F9 N9
  clear hI9
  k_steps
  refine Stop.on ?_
  have hsz9 := IntsAre.length hI
  refine' list_iter_K ?F ?N rfl ?i ?l ?le ?sz ?_
  case F => k_asm
  case N => k_asm
  case i => k_mem
  case l => k_mem
  case le => simp only [List.size_toArray, List.toList_toArray] at hsz9 ⊢; rw [hsz9]; simp [enc_snoc]
  case sz => simp only [List.size_toArray, List.toList_toArray] at hsz9 ⊢; rw [hsz9]; simp only [enc_snoc, sizeLine, List.length_append, List.length_map] at hlen ⊢; simp at hlen ⊢; omega
  intro D9 c9 h10 tk10 F10 N10
  obtain ⟨t1, t2, e9⟩ := ints_two (ints_drop hI (ds0 ++ [d]).length (by simp [enc_snoc]))
  rw [e9] at N10
  clear hI N9 F9
  k_steps
  rename Fr _ _ _ _ => F11
  rename News _ _ _ _ => N11
  exact hQ _ _ _ _ _ _ _ _ _ F11.keep (N11 _ (.head _)).2.2 (N11 _ (.tail _ (.head _))).2.2 (N11 _ (.head _)).1 (N11 _ (.tail _ (.head _))).1
end Mine
end
section
open PySem PySem.W PyProof.Rows PySem.Calls
set_option maxRecDepth 100000
namespace Mine
local macro_rules | `(tactic| walk_at "call type:type") => `(tactic| ((with_reducible show wpAny _ _ (call _ [Value.bytes _ _]) _ _ _); refine call_type_of (Tx := "bytes") rfl (by decide +kernel) ?_))
set_option maxHeartbeats 0 in
theorem buffer_call {prog : Program} {w : World} {mean : ExcName → Option Value} {mg mb : Str → Option Value} {A : Around} {s : Shared} {E : Value → Shared → Prop} {Q : Value → Shared → Prop} {a : Array UInt8} {t : Tok}
    (W : Wd w mean mg mb s.heap) (R : Rm 0 A)
    (hQ : ∀ h' tk', (∀ b o, s.heap.get? b = some o → h'.get? b = some o) → Q (.bytes a t) { s with heap := h', toks := tk' }) :
    wpAny (model prog w) A (call (.ref 42) [.bytes a t]) Q E s := by
  obtain ⟨X, T⟩ := W
  obtain ⟨hd', dp, fr, gd, un⟩ := A
  obtain ⟨r1, r2, r3⟩ := R
  dsimp only at r1 r2 r3
  subst r1
  w_on
  have fl2 : (fun (_ : OpenLaw) (_ : Params → Frag) => True) PySem.Challenge.rw_ny0066_01 Mine.hd.heap_39 := by
    k_fill
    trivial
  clear fl2
  refine' enter (K := hd.heap_39 w.params) (binds := [(Str.ofString "data", .bytes a t)]) [] X T.nolimit ?k6 ?k7 ?k8 ?k9 ?kB ?_ ?c2 ?c3 ?c4 ?c5
  case k6 => k_is
  case k7 => k_is
  case k8 => simp only [recursionLimit]; omega
  case k9 => exact BindsTo.of_eq rfl
  case kB => exact locs rfl
  case c2 => exact rfl
  case c3 => exact rfl
  case c4 => exact rfl
  case c5 => decide
  intro L h₁ hL F K1
  have N : News s.heap L h₁ [] := News.nil
  dsimp only [hideAll] at F
  k_with_none
  k_steps
  rename Fr _ _ _ _ => F9
  dsimp only
  exact hQ _ _ F9.keep
set_option maxHeartbeats 0 in
theorem truth_call {prog : Program} {w : World} {mean : ExcName → Option Value} {mg mb : Str → Option Value} {A : Around} {s : Shared} {E : Value → Shared → Prop} {Q : Value → Shared → Prop}
    (W : Wd w mean mg mb s.heap) (R : Rm 0 A)
    (hQ : ∀ h' tk', (∀ b o, s.heap.get? b = some o → h'.get? b = some o) → Q (.bool false) { s with heap := h', toks := tk' }) :
    wpAny (model prog w) A (call (.ref 49) [.bool false]) Q E s := by
  obtain ⟨X, T⟩ := W
  obtain ⟨hd', dp, fr, gd, un⟩ := A
  obtain ⟨r1, r2, r3⟩ := R
  dsimp only at r1 r2 r3
  subst r1
  w_on
  have fl2 : (fun (_ : OpenLaw) (_ : Params → Frag) => True) PySem.Challenge.rw_ny0066_01 Mine.hd.heap_39 := by
    k_fill
    trivial
  clear fl2
  refine' enter (K := hd.heap_39 w.params) (binds := [(Str.ofString "x", .bool false)]) [] X T.nolimit ?k6 ?k7 ?k8 ?k9 ?kB ?_ ?c2 ?c3 ?c4 ?c5
  case k6 => k_is
  case k7 => k_is
  case k8 => simp only [recursionLimit]; omega
  case k9 => exact BindsTo.of_eq rfl
  case kB => exact locs rfl
  case c2 => exact rfl
  case c3 => exact rfl
  case c4 => exact rfl
  case c5 => decide
  intro L h₁ hL F K1
  have N : News s.heap L h₁ [] := News.nil
  dsimp only [hideAll] at F
  k_with_none
  k_steps
  rename Fr _ _ _ _ => F9
  dsimp only
  exact hQ _ _ F9.keep
end Mine
end
section
open PySem PySem.W PyProof.Rows PySem.Calls
set_option maxRecDepth 100000
namespace Mine
/-- the 64 signs' codes -/
def b64l : List UInt8 := [65, 66, 67, 68, 69, 70, 71, 72, 73, 74, 75, 76, 77, 78, 79, 80, 81, 82, 83, 84, 85, 86, 87, 88, 89, 90, 97, 98, 99, 100, 101, 102, 103, 104, 105, 106, 107, 108, 109, 110, 111, 112, 113, 114, 115, 116, 117, 118, 119, 120, 121, 122, 48, 49, 50, 51, 52, 53, 54, 55, 56, 57, 43, 47]
def signOf (i : Int) : Int := ((b64l.getD i.toNat 0).toNat : Int)
theorem signOf_range : ∀ k : Nat, k < 64 → 0 ≤ signOf k ∧ signOf k < 128 := by decide
/-- the sixes of a number -/
def sixesOf (n : Int) : List Int := [n / 262144, n / 4096 % 64, n / 64 % 64, n % 64]
theorem lcs {x b : Int} (hx : 0 ≤ x) (h0 : 0 ≤ b) (h1 : b < 256) : Builtin.bitAnd (Builtin.bitOr (x * 2 ^ Int.toNat 8) b) 65535 = (x * 256 + b) % 65536 := by
  have e : Builtin.bitOr (x * 2 ^ 8) b = x * 2 ^ 8 + b := or_apart (k := 8) hx h0 (by simpa using h1)
  show Builtin.bitAnd (Builtin.bitOr (x * 2 ^ 8) b) 65535 = _
  rw [e, bitAnd_m16]
  simp only [Int.reducePow]
theorem idx6 (v : Int) : Builtin.bitAnd v 63 = v % 64 := bitAnd_m6 v
section
variable {prog : Program} {w : World} {A : Around} {E : Value → Shared → Prop} {s : Shared} {a b n : Int} {t u : Tok} {Q : Value → Shared → Prop}
theorem and_V (hy : 0 ≤ b) (h : ∀ v t tk, v = Builtin.bitAnd a b → 0 ≤ v → v ≤ b → Q (.int v t) { s with toks := tk }) : wpAny (model prog w) A (binaryOp .BitAnd (.int a t) (.int b u)) Q E s :=
  and_int (h _ _ _ rfl (bitAnd_range a hy).1 (bitAnd_range a hy).2)
theorem or_V (h : ∀ v t tk, v = Builtin.bitOr a b → Q (.int v t) { s with toks := tk }) : wpAny (model prog w) A (binaryOp .BitOr (.int a t) (.int b u)) Q E s := or_int (h _ _ _ rfl)
theorem shl_V (hn : 0 ≤ n) (hn2 : n ≤ 1000000) (ha : a.natAbs < 2 ^ 64) (h : ∀ v t tk, v = a * 2 ^ n.toNat → Q (.int v t) { s with toks := tk }) : wpAny (model prog w) A (binaryOp .LShift (.int a t) (.int n u)) Q E s :=
  lshift_int_small hn hn2 ha (h _ _ _ rfl)
theorem shr_V (hn : 0 ≤ n) (h : ∀ v t tk, v = a.fdiv (2 ^ n.toNat) → Q (.int v t) { s with toks := tk }) : wpAny (model prog w) A (binaryOp .RShift (.int a t) (.int n u)) Q E s :=
  rshift_int hn (h _ _ _ rfl)
theorem item_b64 {value slice : PySem.Expr} {i : Int} (h0 : 0 ≤ i) (h1 : i ≤ 63)
    (h : ∀ v t tk, v = signOf i → 0 ≤ v → v < 128 → Q (.int v t) { s with toks := tk })
    (hs : subscripted slice false (.bytes b64l.toArray t) (.int i u) = operate [.bytes b64l.toArray t, .int i u] (getItem (.bytes b64l.toArray t) (.int i u)) := by with_unfolding_all rfl) (ht : ∀ r, letTemporaryGo value (.bytes b64l.toArray t) r = pure () := by intro _; with_unfolding_all rfl) :
    wpAny (model prog w) A (subscriptTail value slice (.bytes b64l.toArray t) (.int i u)) Q E s := by
  have hr := signOf_range i.toNat (by omega)
  rw [Int.toNat_of_nonneg h0] at hr
  exact subscriptTail_builtin (typeIs_bytes _ _ _) FB.slot_bytes_getitem.lookup (getItem_bytes (by decide) h0 (by show i < 64; omega) (h _ _ _ rfl hr.1 hr.2)) hs ht
end
end Mine
end
section
local macro_rules | `(tactic| walk_at "no such key 0") => `(tactic| skip)
local macro_rules | `(tactic| walk_at "no such key 1") => `(tactic| skip)
open PySem PySem.W PyProof.Rows PySem.Calls
set_option maxRecDepth 100000
namespace Mine
section
variable {prog : Program} {w : World} {mean : ExcName → Option Value} {mg mb : Str → Option Value} {A : Around} {E : Value → Shared → Prop} {s : Shared} {h₀ : Heap} {L : Addr} {m : Str → Option Value} {news : List (Addr × Obj)}
theorem buffer_K {a : Array UInt8} {t : Tok} {Q : Value → Shared → Prop} (F : Fr h₀ L s.heap m) (N : News h₀ L s.heap news) (X : (hd.heap_39 w.params).In h₀) (T : Top hd.view_39 looseN mean mg mb h₀) (R : Rm 0 A)
    (h : ∀ h' tk', Fr h₀ L h' m → News h₀ L h' news → Q (.bytes a t) { s with heap := h', toks := tk' }) : wpAny (model prog w) A (call (.ref 42) [.bytes a t]) Q E s :=
  buffer_call (Wd.keeps ⟨X, T⟩ F.keep) R fun h' tk' k => h h' tk' (Fr_keeps F k) (News_keeps N k)
theorem truth_K {Q : Value → Shared → Prop} (F : Fr h₀ L s.heap m) (N : News h₀ L s.heap news) (X : (hd.heap_39 w.params).In h₀) (T : Top hd.view_39 looseN mean mg mb h₀) (R : Rm 0 A)
    (h : ∀ h' tk', Fr h₀ L h' m → News h₀ L h' news → Q (.bool false) { s with heap := h', toks := tk' }) : wpAny (model prog w) A (call (.ref 49) [.bool false]) Q E s :=
  truth_call (Wd.keeps ⟨X, T⟩ F.keep) R fun h' tk' k => h h' tk' (Fr_keeps F k) (News_keeps N k)
end
local macro_rules | `(tactic| walk_at "call ref cons nil") => `(tactic| (k_here; k_dflt (first
  | (refine' buffer_K ?F ?N ?X ?T ?R ?_; (case F => k_asm); (case N => k_asm); (case X => k_asm); (case T => k_asm); (case R => k_extra "room"); k_whole)
  | (refine' truth_K ?F ?N ?X ?T ?R ?_; (case F => k_asm); (case N => k_asm); (case X => k_asm); (case T => k_asm); (case R => k_extra "room"); k_whole)); intro h' tk' F' N'; (try k_sweep)))
local macro_rules | `(tactic| walk_at "binaryOp BitAnd int int") => `(tactic| (refine and_V (by decide) ?_; intro v' t' tk' ve' vl' vh'; (try dsimp only)))
local macro_rules | `(tactic| walk_at "binaryOp BitOr int int") => `(tactic| (refine or_V ?_; intro v' t' tk' ve'; (try dsimp only)))
local macro_rules | `(tactic| walk_at "binaryOp LShift int int") => `(tactic| (refine shl_V (by decide) (by decide) (by omega) ?_; intro v' t' tk' ve'; (try dsimp only)))
local macro_rules | `(tactic| walk_at "binaryOp RShift int int") => `(tactic| (refine shr_V (by decide) ?_; intro v' t' tk' ve'; (try dsimp only)))
local macro_rules | `(tactic| walk_at "subscriptTail Name BinOp bytes int") => `(tactic| (with_unfolding_all refine item_b64 (by omega) (by omega) ?_; intro v' t' tk' ve' vl' vh'; (try dsimp only)))
local macro_rules | `(tactic| walk_at "call builtin:list.append") => `(tactic| (k_here; (dsimp only [List.cons_append, List.nil_append]); k_dflt (refine' append_K ?k1 ?k2 ?k3 ?_ ?z; (case k1 => k_asm); (case k2 => k_asm); (case k3 => k_upd); (case z => size_fits); k_whole); intro h' F' N'; (try k_sweep)))
local macro_rules | `(tactic| walk_at "call type:bytes") => `(tactic| refine Stop.out ?_)
local macro_rules | `(tactic| walk_at "pyIter bytes") => `(tactic| ((rename Fr _ _ _ _ => lF'); (rename News _ _ _ _ => lN'); (with_unfolding_all refine iter_bytesUnr (by rfl) lF' lN' (by k_extra "ints") ?_); clear lF' lN'; intro i' l1; (try k_lt l1)))
set_option maxHeartbeats 0 in
theorem b2a_call {prog : Program} {w : World} {mean : ExcName → Option Value} {mg mb : Str → Option Value} {A : Around} {s : Shared} {E : Value → Shared → Prop} {Q : Value → Shared → Prop} {arr : Array UInt8} {a b c : Int} {t : Tok}
    (W : Wd w mean mg mb s.heap) (R : Rm 1 A) (hb : KBw.bInts arr = [a, b, c])
    (hQ : ∀ h' tk' t', (∀ b o, s.heap.get? b = some o → h'.get? b = some o) → Q (.bytes (byteArr ((sixesOf (a * 65536 + b * 256 + c)).map signOf)) t') { s with heap := h', toks := tk' }) :
    wpAny (model prog w) A (call (.ref 57) [.bytes arr t] [(Str.ofString "newline", .bool false)]) Q E s := by
  obtain ⟨X, T⟩ := W
  obtain ⟨hd', dp, fr, gd, un⟩ := A
  obtain ⟨r1, r2, r3⟩ := R
  dsimp only at r1 r2 r3
  subst r1
  w_on
  have fl2 : (fun (_ : OpenLaw) (_ : Params → Frag) => True) PySem.Challenge.rw_ny0066_01 Mine.hd.heap_39 := by
    k_fill
    trivial
  clear fl2
  refine' enter (K := hd.heap_39 w.params) (binds := [(Str.ofString "data", .bytes arr t), (Str.ofString "newline", .bool false)]) [] X T.nolimit ?k6 ?k7 ?k8 ?k9 ?kB ?_ ?c2 ?c3 ?c4 ?c5
  case k6 => k_is
  case k7 => k_is
  case k8 => simp only [recursionLimit]; omega
  case k9 => exact BindsTo.of_eq rfl
  case kB => exact locs rfl
  case c2 => exact rfl
  case c3 => exact rfl
  case c4 => exact rfl
  case c5 => decide
  intro L h₁ hL F K1
  have N : News s.heap L h₁ [] := News.nil
  dsimp only [hideAll] at F
  k_with_none
  k_with "ints" => exact hb
  k_with "room" => exact Rm.deeper (A := ⟨none, dp, fr, gd, un⟩) ⟨rfl, r2, r3⟩
  k_steps
  refine Stop.on ?_
  dsimp only [List.cons_append, List.nil_append]
  have ha := KBw.ints_in (b := arr) (k := a) (by rw [hb]; simp)
  have hb' := KBw.ints_in (b := arr) (k := b) (by rw [hb]; simp)
  have hc := KBw.ints_in (b := arr) (k := c) (by rw [hb]; simp)
  rename Fr _ _ _ _ => F9
  rename News _ _ _ _ => N9
  refine call_bytes_ints (News.isList N9 (.head _)) (ints4 (ns := [_, _, _, _]) rfl) ?_ (by simp [sizeLine]) rfl ?_
  · intro n hn
    simp only [List.mem_cons, List.not_mem_nil, or_false] at hn
    rcases hn with rfl | rfl | rfl | rfl <;> omega
  intro h10 t10 tk10 k10
  have key : ∀ l, l = (sixesOf (a * 65536 + b * 256 + c)).map signOf → Q (.bytes (byteArr l) t10) { s with heap := h10, toks := tk10 } := by
    intro l e; subst e
    exact hQ _ _ _ fun b o e => k10 b o (F9.keep b o e)
  refine key _ ?_
  have L1 : Builtin.bitAnd (Builtin.bitOr (0 * 2 ^ Int.toNat 8) a) 65535 = a := by rw [lcs (by decide) ha.1 ha.2]; omega
  have L2 : Builtin.bitAnd (Builtin.bitOr (a * 2 ^ Int.toNat 8) b) 65535 = a * 256 + b := by rw [lcs ha.1 hb'.1 hb'.2]; omega
  have L3 : Builtin.bitAnd (Builtin.bitOr ((a * 256 + b) * 2 ^ Int.toNat 8) c) 65535 = b * 256 + c := by rw [lcs (by omega) hc.1 hc.2]; omega
  clear F9 N9 hb key hQ
  subst_vars
  simp only [L1, L2, L3, idx6, sixesOf, List.map]
  simp only [List.cons.injEq, and_true]
  refine ⟨congrArg signOf ?_, congrArg signOf ?_, congrArg signOf ?_, congrArg signOf ?_⟩
  · rw [Int.fdiv_eq_ediv_of_nonneg _ (by decide)]
    show a / 4 % 64 = _
    omega
  · rw [Int.fdiv_eq_ediv_of_nonneg _ (by decide)]
    show (a * 256 + b) / 16 % 64 = _
    omega
  · rw [Int.fdiv_eq_ediv_of_nonneg _ (by decide)]
    show (b * 256 + c) / 64 % 64 = _
    omega
  · rw [Int.fdiv_eq_ediv_of_nonneg _ (by decide)]
    show (b * 256 + c) / 1 % 64 = _
    omega
end Mine
end
section
open PySem PySem.W PyProof.Rows PySem.Calls
set_option maxRecDepth 100000
namespace Mine
open Builtin
theorem ascii4 {w x y z : UInt8} (h1 : w.toNat < 128) (h2 : x.toNat < 128) (h3 : y.toNat < 128) (h4 : z.toNat < 128) (id : String) :
    _codecs.runDecoder id _codecs.asciiDecoder none true #[w, x, y, z] 0 [] = pure (#[w.toNat, x.toNat, y.toNat, z.toNat], 4) := by
  unfold _codecs.runDecoder
  simp only [Std.Legacy.Range.forIn_eq_forIn_range', Std.Legacy.Range.size]
  have f0 : _codecs.asciiDecoder.find true #[w, x, y, z] 0 = .text [w.toNat] 1 := by simp [_codecs.asciiDecoder, _codecs.Found.char, h1]
  have f1 : _codecs.asciiDecoder.find true #[w, x, y, z] 1 = .text [x.toNat] 2 := by simp [_codecs.asciiDecoder, _codecs.Found.char, h2]
  have f2 : _codecs.asciiDecoder.find true #[w, x, y, z] 2 = .text [y.toNat] 3 := by simp [_codecs.asciiDecoder, _codecs.Found.char, h3]
  have f3 : _codecs.asciiDecoder.find true #[w, x, y, z] 3 = .text [z.toNat] 4 := by simp [_codecs.asciiDecoder, _codecs.Found.char, h4]
  rw [show List.range' 0 ((#[w, x, y, z].size - 0 + 1 - 1) / 1) = [0, 1, 2, 3] from by simp [List.range']]
  simp [List.forIn_cons, f0, f1, f2, f3, sizeLine]
theorem dec_road {b : Array UInt8} {id : String} : _codecs.decodeRoad id b (PySem.Str.ofString "ascii") none [] = (_codecs.runDecoder id _codecs.asciiDecoder none true b 0 [] >>= fun r => mkStr ⟨r.1⟩) := by kernel_rfl
theorem dec_text {b : Array UInt8} {t t1 t2 : Tok} {d x : PySem.Str} {n : Nat} (hd : ∀ id, _codecs.runDecoder id _codecs.asciiDecoder none true b 0 [] = pure (x.cps, n)) :
    Meets («_codecs.decode.text» ⟨[.bytes b t, .str (PySem.Str.ofString "ascii") t1, .none, .str d t2], []⟩) (fun _ R s => x.length ≤ sizeLine ∧ R (.ok (.ret (.str x s.toks))) { s with toks := s.toks + 1 }) := by
  refine .of_wp fun prog w A R s hS => ?_
  obtain ⟨hsz, h⟩ := hS
  show wpAny _ _ (Bytes.bytesLike _ (.bytes b t) >>= fun r => _) _ _ s
  refine wpAny_bind (wpAny_of_eq KBd.like_eq ?_)
  refine wpAny_bind (wpAny_of_eq KBd.held_eq ?_)
  show wpAny _ _ (_codecs.decodeRoad _ b (PySem.Str.ofString "ascii") none [] >>= fun v => _) _ _ s
  rw [dec_road, hd]
  refine wpAny_bind (wpAny_bind (wpAny_pure ?_))
  exact wpAny_mkStr (wpAny_pure ⟨_, rfl, h⟩) hsz
theorem dec_entry {c : UInt8} {cs : List UInt8} {t u : Tok} : «bytes.decode» ⟨[.bytes (c :: cs).toArray t, .str (PySem.Str.ofString "ascii") u], []⟩ = (mkStr (PySem.Str.ofString "utf-8") >>= fun _ => mkStr (PySem.Str.ofString "ascii") >>= fun e => mkStr (PySem.Str.ofString "bytes.decode") >>= fun d =>
    call (.builtin "_codecs.decode.text") [.bytes (c :: cs).toArray t, e, .none, d] >>= fun v => ret v) := by kernel_rfl
theorem dec_args (a b : Value) : argsOk "bytes.decode" ⟨[a, b], []⟩ := by unfold argsOk; kernel_rfl
theorem dec_meets {c : UInt8} {cs : List UInt8} {t u : Tok} {x : PySem.Str} {n : Nat} (hd : ∀ id, _codecs.runDecoder id _codecs.asciiDecoder none true (c :: cs).toArray 0 [] = pure (x.cps, n)) :
    Meets («bytes.decode» ⟨[.bytes (c :: cs).toArray t, .str (PySem.Str.ofString "ascii") u], []⟩) (fun _ R s => x.length ≤ sizeLine ∧ ∀ t' k, R (.ok (.ret (.str x t'))) { s with toks := k }) := by
  refine .of_wp fun prog w A R s hS => ?_
  obtain ⟨hsz, h⟩ := hS
  rw [dec_entry]
  refine wpAny_bind (wpAny_mkStr ?_ (by decide))
  refine wpAny_bind (wpAny_mkStr ?_ (by decide))
  refine wpAny_bind (wpAny_mkStr ?_ (by decide))
  exact wpAny_bind (call_function_meets KBd.kind_text KBd.plain_text KBd.entry_text (KBd.args_text _ _ _ _) (dec_text hd) ⟨hsz, wpAny_pure ⟨_, rfl, h _ _⟩⟩)
/-- bytes.decode("ascii") of four octets below 128 -/
theorem dec4 {prog : Program} {w : World} {A : Around} {E : Value → Shared → Prop} {s : Shared} {a b c d : UInt8} {t u : Tok} {Q : Value → Shared → Prop} (h1 : a.toNat < 128) (h2 : b.toNat < 128) (h3 : c.toNat < 128) (h4 : d.toNat < 128)
    (h : ∀ t' k, Q (.str ⟨#[a.toNat, b.toNat, c.toNat, d.toNat]⟩ t') { s with toks := k }) : wpAny (model prog w) A (call (.builtin "bytes.decode") [.bytes #[a, b, c, d] t, .str (PySem.Str.ofString "ascii") u]) Q E s :=
  call_meets FB.slot_bytes_decode (typeIs_bytes _ _ _) FB.entry_bytes_decode (dec_args _ _) (dec_meets (x := ⟨#[a.toNat, b.toNat, c.toNat, d.toNat]⟩) (n := 4) fun id => ascii4 h1 h2 h3 h4 id) ⟨by show 4 ≤ sizeLine; decide, h⟩
end Mine
end
section
open PySem PySem.W PyProof.Rows PySem.Calls
set_option maxRecDepth 100000
namespace Mine
section
variable {prog : Program} {w : World} {mean : ExcName → Option Value} {mg mb : Str → Option Value} {A : Around} {E : Value → Shared → Prop} {s : Shared} {h₀ : Heap} {L : Addr} {m : Str → Option Value} {news : List (Addr × Obj)}
theorem b2a_K {arr : Array UInt8} {t : Tok} {a b c : Int} {Q : Value → Shared → Prop} (F : Fr h₀ L s.heap m) (N : News h₀ L s.heap news) (X : (hd.heap_39 w.params).In h₀) (T : Top hd.view_39 looseN mean mg mb h₀) (R : Rm 1 A) (hb : KBw.bInts arr = [a, b, c])
    (h : ∀ h' tk' t', Fr h₀ L h' m → News h₀ L h' news → Q (.bytes (byteArr ((sixesOf (a * 65536 + b * 256 + c)).map signOf)) t') { s with heap := h', toks := tk' }) : wpAny (model prog w) A (call (.ref 57) [.bytes arr t] [(Str.ofString "newline", .bool false)]) Q E s :=
  b2a_call (Wd.keeps ⟨X, T⟩ F.keep) R hb fun h' tk' t' k => h h' tk' t' (Fr_keeps F k) (News_keeps N k)
end
local macro_rules | `(tactic| walk_at "call ref") => `(tactic| (k_here; (try dsimp only [List.cons_append, List.nil_append]); k_dflt (
  (refine' b2a_K ?F ?N ?X ?T ?R ?b ?_; (case F => k_asm); (case N => k_asm); (case X => k_asm); (case T => k_asm); (case R => k_extra "room"); (case b => k_extra "ints"); k_whole)); intro h' tk' t' F' N'; (try k_sweep)))
set_option maxHeartbeats 0 in
theorem enc_call {prog : Program} {w : World} {mean : ExcName → Option Value} {mg mb : Str → Option Value} {A : Around} {s : Shared} {E : Value → Shared → Prop} {Q : Value → Shared → Prop} {arr : Array UInt8} {a b c : Int} {t : Tok}
    (W : Wd w mean mg mb s.heap) (R : Rm 2 A) (hb : KBw.bInts arr = [a, b, c])
    (hQ : ∀ h' tk' t', (∀ b o, s.heap.get? b = some o → h'.get? b = some o) → Q (.bytes (byteArr ((sixesOf (a * 65536 + b * 256 + c)).map signOf)) t') { s with heap := h', toks := tk' }) :
    wpAny (model prog w) A (call (.ref 65) [.bytes arr t]) Q E s := by
  obtain ⟨X, T⟩ := W
  obtain ⟨hd', dp, fr, gd, un⟩ := A
  obtain ⟨r1, r2, r3⟩ := R
  dsimp only at r1 r2 r3
  subst r1
  w_on
  have fl2 : (fun (_ : OpenLaw) (_ : Params → Frag) => True) PySem.Challenge.rw_ny0066_01 Mine.hd.heap_39 := by
    k_fill
    trivial
  clear fl2
  refine' enter (K := hd.heap_39 w.params) (binds := [(Str.ofString "s", .bytes arr t), (Str.ofString "altchars", .none)]) [] X T.nolimit ?k6 ?k7 ?k8 ?k9 ?kB ?_ ?c2 ?c3 ?c4 ?c5
  case k6 => k_is
  case k7 => k_is
  case k8 => simp only [recursionLimit]; omega
  case k9 => exact binds_K X rfl (by k_is) rfl rfl rfl
  case kB => exact locs rfl
  case c2 => exact rfl
  case c3 => exact rfl
  case c4 => exact rfl
  case c5 => decide
  intro L h₁ hL F K1
  have N : News s.heap L h₁ [] := News.nil
  dsimp only [hideAll] at F
  k_with_none
  k_with "ints" => exact hb
  k_with "room" => exact Rm.deeper (A := ⟨none, dp, fr, gd, un⟩) ⟨rfl, r2, r3⟩
  k_steps
  rename Fr _ _ _ _ => F9
  try dsimp only
  exact hQ _ _ _ F9.keep
end Mine
end
section
open PySem PySem.W PyProof.Rows PySem.Calls
set_option maxRecDepth 100000
namespace Mine
section
variable {prog : Program} {w : World} {A : Around} {s : Shared} {K : Frag} {E Q : Value → Shared → Prop}
/-- a def with captured names entered from any state; its base is the whole heap -/
theorem enterC {name qual : Str} {params : Arguments} {body : List Stmt} {scope : Scope} {dV kV doc pm cdv ct oc : Value} {an od : Option Addr} {osl : Array (Option Value)} {f : Addr} {vals : List Value} {kw : List (Str × Value)} {binds : List (Str × Value)}
    (X : K.In s.heap) (hlim : s.heap.NoLimit)
    (ho : K.lookup f = some ⟨oc, od, .func (fnOf name qual params body scope dV kV doc pm an cdv ct), osl⟩) (hcd : codeIn K cdv qual = true) (hroom : A.depth < recursionLimit)
    (hbind : BindsTo s (fnOf name qual params body scope dV kV doc pm an cdv ct) ⟨vals, kw⟩ binds) (hkind : (binds.all fun y => scope.names.lookup y.1 == some .local || scope.names.lookup y.1 == some .cell) = true)
    (hnd : ((cellsFrom 0 scope.names []).map (·.1)).Nodup)
    (h : ∀ L' h₁ tk cells, L' = s.heap.objs.size → Fr s.heap L' h₁ (bindL (envOfC qual scope L' f cdv).kindOf binds fun _ => none) → News s.heap L' h₁ cells → CellsAre (bindC (envOfC qual scope L' f cdv).kindOf binds fun _ => none) (cellsFrom (L' + 1) scope.names []) cells →
      wpAny (model prog w) (A.deeper (envOfC qual scope L' f cdv)) (execs body (envOfC qual scope L' f cdv))
        (fun fl s' => Q (match fl with | .ret v => v | _ => .none) s') (fun _ _ => False) { s with heap := h₁, toks := tk })
    (hco : scope.isCoroutine = false) (hgen : scope.isGenerator = false) (hk : scope.kind = .function) : wpAny (model prog w) A (call (.ref f) vals kw) Q E s := by
  refine wpAny_call ?_
  refine codeAny_call_function hroom (X _ _ ho) rfl hco hgen rfl (codeRec_of X hcd) (hbind _ _ _ _ ?_)
  refine wpAny_newFunctionEnv_cells hk (kindsX hkind _) fun env' he s' x => ?_
  subst he
  refine ⟨hlim.keeps x.toInCall.keep, codeAny_func ?_⟩
  obtain ⟨h₁, tk, rfl, _⟩ := x.done
  have hk₁ := x.toInCall.keep
  obtain ⟨cells, NC, Y⟩ := Cl.news (h₀ := s.heap) (Nat.le_refl _) fun n c hm => ⟨x.cell n c (lookup_of_mem_nodup (cellsFrom_names scope.names 0 (s.heap.objs.size + 1) [] [] rfl ▸ hnd) hm), x.above n c hm⟩
  exact wpAny_mono (h s.heap.objs.size h₁ tk cells rfl ⟨x.toInCall.ns, hk₁, Nat.le_refl _⟩ NC Y) (fun fl s' x => x) fun _ _ x => x.elim
end
end Mine
end
section
local macro_rules | `(tactic| walk_at "no such key 0") => `(tactic| skip)
local macro_rules | `(tactic| walk_at "no such key 1") => `(tactic| skip)
open PySem PySem.W PyProof.Rows PySem.Calls
set_option maxRecDepth 100000
namespace Mine
section
variable {prog : Program} {w : World} {mean : ExcName → Option Value} {mg mb : Str → Option Value} {A : Around} {E : Value → Shared → Prop} {s : Shared} {h₀ : Heap} {L : Addr} {m : Str → Option Value} {news : List (Addr × Obj)}
theorem enc_K {arr : Array UInt8} {t : Tok} {a b c : Int} {Q : Value → Shared → Prop} (F : Fr h₀ L s.heap m) (N : News h₀ L s.heap news) (X : (hd.heap_39 w.params).In h₀) (T : Top hd.view_39 looseN mean mg mb h₀) (R : Rm 2 A) (hb : KBw.bInts arr = [a, b, c])
    (h : ∀ h' tk' t', Fr h₀ L h' m → News h₀ L h' news → Q (.bytes (byteArr ((sixesOf (a * 65536 + b * 256 + c)).map signOf)) t') { s with heap := h', toks := tk' }) : wpAny (model prog w) A (call (.ref 65) [.bytes arr t]) Q E s :=
  enc_call (Wd.keeps ⟨X, T⟩ F.keep) R hb fun h' tk' t' k => h h' tk' t' (Fr_keeps F k) (News_keeps N k)
end
theorem signs_ints {g : Nat → Int} : ∀ {cs : List Nat} {vs ys : List Value}, vs.length = cs.length → (∀ (j : Nat) (v : Value), vs[j]? = some v → ∃ c t, cs[j]? = some c ∧ v = Value.str ⟨#[c]⟩ t) → Paired (fun v y => ∃ c t u, v = Value.str ⟨#[c]⟩ t ∧ y = Value.int (g c) u) vs ys → IntsAre ys (cs.map g)
  | [], vs, ys, hl, _, hp => by
    cases vs with
    | nil => cases hp; exact .nil
    | cons _ _ => simp at hl
  | c :: cs, vs, ys, hl, hs, hp => by
    cases vs with
    | nil => simp at hl
    | cons v vs =>
      cases hp with
      | cons h hp =>
        obtain ⟨c1, t1, e1, rfl⟩ := hs 0 v (by simp)
        simp at e1; subst e1
        obtain ⟨c2, t2, u, e2, rfl⟩ := h
        injection e2 with e2 _; injection e2 with e2; simp at e2; subst e2
        exact .cons _ _ (signs_ints (by simpa using hl) (fun j v hj => by simpa using hs (j + 1) v (by simpa using hj)) hp)
theorem bInts_byteArr : ∀ {ns : List Int}, (∀ n ∈ ns, 0 ≤ n ∧ n < 256) → KBw.bInts (byteArr ns) = ns
  | [], _ => rfl
  | n :: ns, h => by
    have ih := bInts_byteArr (ns := ns) fun m hm => h m (.tail _ hm)
    have hn := h n (.head _)
    unfold KBw.bInts byteArr at ih ⊢
    simp only [List.map_cons, List.map_map] at ih ⊢
    rw [ih]
    simp only [List.cons.injEq, and_true]
    simp only [Nat.toUInt8]
    rw [UInt8.toNat_ofNat']
    omega
theorem sixes_range {n : Int} (h0 : 0 ≤ n) (h1 : n < 16777216) : ∀ i ∈ sixesOf n, 0 ≤ i ∧ i < 64 := by
  intro i hi
  simp only [sixesOf, List.mem_cons, List.not_mem_nil, or_false] at hi
  rcases hi with rfl | rfl | rfl | rfl <;> omega
def signsStr : Str := Str.ofString "ABCDEFGHIJKLMNOPQRSTUVWXYZabcdefghijklmnopqrstuvwxyz0123456789+/"
def codeOf (i : Int) : Nat := (signOf i).toNat.toUInt8.toNat
def findSign (c : Nat) : Int := (Txt.find signsStr ⟨#[c]⟩ : Int)
theorem find_code : ∀ k : Nat, k < 64 → findSign (codeOf k) = k ∧ codeOf k < 128 := by decide +kernel
theorem find_code' {i : Int} (h0 : 0 ≤ i) (h1 : i < 64) : findSign (codeOf i) = i ∧ codeOf i < 128 := by
  have := find_code i.toNat (by omega)
  rwa [Int.toNat_of_nonneg h0] at this
local macro_rules | `(tactic| walk_at "call ref") => `(tactic| (k_here; (try dsimp only [List.cons_append, List.nil_append]); k_dflt (
  (refine' enc_K ?F ?N ?X ?T ?R ?b ?_; (case F => k_asm); (case N => k_asm); (case X => k_asm); (case T => k_asm); (case R => k_extra "room"); (case b => k_extra "ints"); k_whole)); intro h' tk' t' F' N'; (try k_sweep)))
local macro_rules | `(tactic| walk_at "call type:bytes") => `(tactic| refine Stop.out ?_)
local macro_rules | `(tactic| walk_at "eval Name") => `(tactic| k_extra "name")
local macro_rules | `(tactic| walk_at "pyIter str") => `(tactic| refine Stop.out ?_)
local macro_rules | `(tactic| walk_at "call builtin:bytes.decode") => `(tactic| ((dsimp only [List.cons_append, List.nil_append]); k_dflt (refine dec4 (by k_extra "below") (by k_extra "below") (by k_extra "below") (by k_extra "below") ?_); intro t' k'; (try dsimp only)))
local macro_rules | `(tactic| walk_at "eval ListComp") => `(tactic| refine Stop.out ?_)
set_option maxHeartbeats 0 in
theorem sixes_call {prog : Program} {w : World} {mean : ExcName → Option Value} {mg mb : Str → Option Value} {A : Around} {s : Shared} {E : Value → Shared → Prop} {Q : Value → Shared → Prop} {n : Int} {t : Tok}
    (W : Wd w mean mg mb s.heap) (R : Rm 3 A) (h0 : 0 ≤ n) (h1 : n < 16777216)
    (hQ : ∀ D h' tk', (∀ b o, s.heap.get? b = some o → h'.get? b = some o) → NewInts s.heap h' D (sixesOf n) → Q (.ref D) { s with heap := h', toks := tk' }) :
    wpAny (model prog w) A (call (.ref 77) [.int n t]) Q E s := by
  obtain ⟨X, T⟩ := W
  obtain ⟨hd', dp, fr, gd, un⟩ := A
  obtain ⟨r1, r2, r3⟩ := R
  dsimp only at r1 r2 r3
  subst r1
  w_on
  have fl2 : (fun (_ : OpenLaw) (_ : Params → Frag) => True) PySem.Challenge.rw_ny0066_01 Mine.hd.heap_39 := by
    k_fill
    trivial
  clear fl2
  refine' enterC (K := hd.heap_39 w.params) (binds := [(Str.ofString "number", .int n t)]) X T.nolimit ?k6 ?k7 ?k8 ?k9 ?kB ?kD ?_ ?c2 ?c3 ?c4
  case k6 => k_is
  case k7 => k_is
  case k8 => simp only [recursionLimit]; omega
  case k9 => exact BindsTo.of_eq rfl
  case kB => exact rfl
  case kD => decide +kernel
  case c2 => exact rfl
  case c3 => exact rfl
  case c4 => exact rfl
  intro L h₁ tk cells hL F N Y
  obtain ⟨o1, hE, d1⟩ := CellsAre.one Y
  subst hE
  clear Y
  k_with_none
  k_with "room" => exact Rm.deeper (A := ⟨none, dp, fr, gd, un⟩) ⟨rfl, r2, r3⟩
  k_steps
  refine Stop.on ?_
  dsimp only [List.cons_append, List.nil_append]
  rename Fr _ _ _ _ => F9
  rename News _ _ _ _ => N9
  have hr : ∀ x ∈ [n.fdiv 65536, (n.fdiv 256).fmod 256, n.fmod 256], 0 ≤ x ∧ x < 256 := by
    intro x hx
    simp only [List.mem_cons, List.not_mem_nil, or_false, Int.fmod_eq_emod_of_nonneg _ (by decide : (0 : Int) ≤ 256), Int.fdiv_eq_ediv_of_nonneg _ (by decide : (0 : Int) ≤ 256), Int.fdiv_eq_ediv_of_nonneg _ (by decide : (0 : Int) ≤ 65536)] at hx
    rcases hx with rfl | rfl | rfl <;> omega
  refine call_bytes_ints (News.isList N9 (.head _)) (ints3 (ns := [n.fdiv 65536, (n.fdiv 256).fmod 256, n.fmod 256]) rfl) hr (by simp [sizeLine]) rfl ?_
  intro h10 t10 tk10 k10
  have F10 := Fr_keeps F9 k10
  have N10 := News_keeps N9 k10
  have hb := bInts_byteArr hr
  clear F9 N9
  k_with "ints" => exact hb
  k_steps
  refine Stop.on ?_
  have en : n.fdiv 65536 * 65536 + (n.fdiv 256).fmod 256 * 256 + n.fmod 256 = n := by
    rw [Int.fdiv_eq_ediv_of_nonneg _ (by decide), Int.fdiv_eq_ediv_of_nonneg _ (by decide), Int.fmod_eq_emod_of_nonneg _ (by decide), Int.fmod_eq_emod_of_nonneg _ (by decide)]
    omega
  have g1 : ∀ i ∈ sixesOf (n.fdiv 65536 * 65536 + (n.fdiv 256).fmod 256 * 256 + n.fmod 256), 0 ≤ i ∧ i < 64 := by
    rw [en]; exact sixes_range h0 h1
  have b0 := find_code' (g1 _ (.head _)).1 (g1 _ (.head _)).2
  have b1 := find_code' (g1 _ (.tail _ (.head _))).1 (g1 _ (.tail _ (.head _))).2
  have b2 := find_code' (g1 _ (.tail _ (.tail _ (.head _)))).1 (g1 _ (.tail _ (.tail _ (.head _)))).2
  have b3 := find_code' (g1 _ (.tail _ (.tail _ (.tail _ (.head _))))).1 (g1 _ (.tail _ (.tail _ (.tail _ (.head _))))).2
  k_with "below" => first | exact b0.2 | exact b1.2 | exact b2.2 | exact b3.2
  refine wpAny_ListComp_free (cl := [(Str.ofString "signs", L + 1)]) (fun _ => true) (fun v y => ∃ c t u, v = Value.str ⟨#[c]⟩ t ∧ y = Value.int (findSign c) u) (by with_unfolding_all rfl) (by decide) rfl (by decide) rfl ?_
  k_steps
  refine Stop.on ?_
  rename Fr _ _ _ _ => F11
  rename News _ _ _ _ => N11
  rename Obj.data _ = Data.cell (some _) => dC
  rw [en] at b0 b1 b2 b3
  simp only [en]
  refine wpAny_pyIter_str ?_
  intro o St W hst
  refine ⟨_, _, _, _, _, _, rfl, W _ rfl, by simp [sizeLine], hst, ?fp, ⟨?tests, ?elt⟩, ?fin⟩
  case fp =>
    intro b hb
    rw [List.mem_singleton.mp hb, Heap.size_push]
    exact Nat.lt_succ_self _
  case tests =>
    intro C i v s₃ m₃ E' hC hP hn hm hk htk
    exact wpAny_pure ⟨rfl, _, _, rfl, fun _ _ e => e⟩
  case elt =>
    intro C i v s₃ m₃ E' hC hP _ hn hm hk htk
    obtain ⟨c, u, hc, rfl⟩ := hP
    have hx := (N11 _ (.tail _ (.head _))).1
    have hcell : s₃.heap.IsCell (L + 1) (some _) := ⟨_, hk _ _ (fun q => by
      have := Heap.lt_size hx
      rw [List.mem_singleton.mp q] at this
      exact Nat.lt_irrefl _ this) (Heap.get?_push_of_some _ hx), dC⟩
    k_with "name" => k_dflt (first | refine wpAny_Name (wpAny_loadName_local (by rfl) (by rfl) hn hm ?_) | refine wpAny_Name (wpAny_loadName_cell (by rfl) (by rfl) (by rfl) hcell ?_))
    refine wpAny_mono (Q := fun y s₄ => Stop ((∃ c' t' u', Value.str ⟨#[c]⟩ u = Value.str ⟨#[c']⟩ t' ∧ y = Value.int (findSign c') u') ∧ Keeps s₃ s₄)) ?_ (fun _ _ h => h) (fun _ _ h => h)
    k_steps
    exact Stop.on ⟨⟨_, _, _, rfl, rfl⟩, _, _, rfl, fun _ _ e => e⟩
  case fin =>
    intro D h' tk' ys vs hD hl hpl hlen hP hF hk
    have hbase : ∀ b o, s.heap.get? b = some o → h'.get? b = some o := fun b o e => by
      have e1 := F11.keep b o e
      refine hk b o (fun q => ?_) (Heap.get?_push_of_some _ e1)
      have := Heap.lt_size e1
      rw [List.mem_singleton.mp q] at this
      exact Nat.lt_irrefl _ this
    obtain ⟨c9, hpl⟩ := hpl
    refine hQ D h' tk' hbase ⟨?_, ys, c9, hpl, ?_⟩
    · cases q : s.heap.get? D with
      | none => rfl
      | some o' =>
        have := Heap.get?_push_of_some o (F11.keep _ _ q)
        rw [hD] at this; cases this
    · have := signs_ints (g := findSign) (cs := [codeOf (n / 262144), codeOf (n / 4096 % 64), codeOf (n / 64 % 64), codeOf (n % 64)]) (vs := vs) (ys := ys.toList) hlen (fun j v hj => by
        obtain ⟨c, u, e1, e2⟩ := hP j v hj
        exact ⟨c, u, by rw [← List.getElem?_toArray]; exact e1, e2⟩) (by rwa [List.filter_eq_self.mpr (fun _ _ => rfl)] at hF)
      refine ints_eq this ?_
      simp only [List.map, sixesOf]
      rw [b0.1, b1.1, b2.1, b3.1]
end Mine
end
section
open PySem PySem.W PyProof.Rows PySem.Calls PySem.Spec
open PyProof.Rows.TI (Frs SameUp)
set_option maxRecDepth 100000
namespace Mine
section
variable {prog : Program} {w : World} {A₀ : Around} {s' : Shared} {hb h : Heap} {L a e : Addr} {m : Str → Option Value} {name : Str} {scope : Scope} {cd : Value} {Q : Flow → Shared → Prop} {l : List Env} {frs new : List (Addr × Obj)}
  {b₀ : Stmt} {suite : List Stmt} {pos np : Pos} {rest : List ExceptHandler} {mean : ExcName → Option Value} {mg mb : Str → Option Value}
/-- an exception that a built-in of this very frame has raised, caught by the frame's own clause -/
theorem catch_value (hfr : A₀.frames = some l) (Fs : Frs l frs) (hx : Heap.NewExc h s'.heap e "ValueError") (F : Fr hb L h m) (N : News hb L h (new ++ frs)) (hap : ∀ p ∈ new, p.1 ∉ L :: frs.map (·.1)) (T : Top hd.view_39 looseN mean mg mb hb)
    (k : ∀ h' frs', SameUp frs frs' → Frs l frs' → Fr hb L h' m → News hb L h' (new ++ frs') →
      wpAny (model prog w) ((A₀.deeper (envOf name scope L a cd)).mark (some (.ref e))) (execs (b₀ :: suite) (envOf name scope L a cd)) Q (fun _ _ => False) { s' with heap := h' })
    (hk : scope.kind = .function) (hxk : (envOf name scope L a cd).kindOf (Str.ofString "ValueError") = some .globalImplicit) :
    wpAny (model prog w) (A₀.deeper (envOf name scope L a cd)) (noteFrame (.ref e) (envOf name scope L a cd))
      (fun _ s₂ => wpAny (model prog w) (A₀.deeper (envOf name scope L a cd)) (setFlight (.ref e) none) (fun _ s₃ =>
        wpAny (model prog w) (A₀.deeper (envOf name scope L a cd)) (handleBy (.ref e) (envOf name scope L a cd) (.ExceptHandler (some (.Name (Str.ofString "ValueError") np)) none (b₀ :: suite) pos :: rest)) Q (fun _ _ => False) s₃) (fun _ _ => False) s₂) (fun _ _ => False) s' := by
  refine TLg.noted_newA hfr Fs hx F N hap (fun h₁ frs₁ SU Fs₁ H => ?_) hk
  refine TT.HeldNA.land H fun h₂ H₂ => ?_
  exact TT.clause_hitTN H₂ T (k := fun h₃ F₃ N₃ => k h₃ frs₁ SU Fs₁ F₃ N₃) (hv := PyProof.Rows.Boot.«ValueError») (hk := hk) (hxk := hxk) (hE := PassesOwnAt.never)
theorem catch_index (hfr : A₀.frames = some l) (Fs : Frs l frs) (hx : Heap.NewExc h s'.heap e "IndexError") (F : Fr hb L h m) (N : News hb L h (new ++ frs)) (hap : ∀ p ∈ new, p.1 ∉ L :: frs.map (·.1)) (T : Top hd.view_39 looseN mean mg mb hb)
    (k : ∀ h' frs', SameUp frs frs' → Frs l frs' → Fr hb L h' m → News hb L h' (new ++ frs') →
      wpAny (model prog w) ((A₀.deeper (envOf name scope L a cd)).mark (some (.ref e))) (execs (b₀ :: suite) (envOf name scope L a cd)) Q (fun _ _ => False) { s' with heap := h' })
    (hk : scope.kind = .function) (hxk : (envOf name scope L a cd).kindOf (Str.ofString "IndexError") = some .globalImplicit) :
    wpAny (model prog w) (A₀.deeper (envOf name scope L a cd)) (noteFrame (.ref e) (envOf name scope L a cd))
      (fun _ s₂ => wpAny (model prog w) (A₀.deeper (envOf name scope L a cd)) (setFlight (.ref e) none) (fun _ s₃ =>
        wpAny (model prog w) (A₀.deeper (envOf name scope L a cd)) (handleBy (.ref e) (envOf name scope L a cd) (.ExceptHandler (some (.Name (Str.ofString "IndexError") np)) none (b₀ :: suite) pos :: rest)) Q (fun _ _ => False) s₃) (fun _ _ => False) s₂) (fun _ _ => False) s' := by
  refine TLg.noted_newA hfr Fs hx F N hap (fun h₁ frs₁ SU Fs₁ H => ?_) hk
  refine TT.HeldNA.land H fun h₂ H₂ => ?_
  exact TT.clause_hitTN H₂ T (k := fun h₃ F₃ N₃ => k h₃ frs₁ SU Fs₁ F₃ N₃) (hv := PyProof.Rows.Boot.«IndexError») (hk := hk) (hxk := hxk) (hE := PassesOwnAt.never)
end
end Mine
end
section
open PySem PySem.W PyProof.Rows PySem.Calls PySem.Spec
open PyProof.Rows.TI (Frs SameUp)
set_option maxRecDepth 100000
namespace Mine
/-- what unorderable_list_difference reckons: the expected from behind, what is found, what is missed -/
noncomputable def uld : List Int → List Int → List Int → List Int × List Int
  | [], as, ms => (ms, as)
  | x :: r, as, ms => if x ∈ as then uld r (as.erase x) ms else uld r as (ms ++ [x])
theorem ints_snoc {its : List Value} {as : List Int} {x : Int} {t : Tok} (h : IntsAre its as) : IntsAre (its ++ [.int x t]) (as ++ [x]) := by
  induction h with
  | nil => exact .cons _ _ .nil
  | cons n t _ ih => exact .cons _ _ ih
theorem ints_all {its : List Value} {as : List Int} (h : IntsAre its as) : kf_ints its = true := by
  induction h with
  | nil => rfl
  | cons n t _ ih => exact ih
theorem ints_hit {x : Int} {its : List Value} {as : List Int} (h : IntsAre its as) (hx : x ∈ as) : ∃ j q, kf_at x its = some j ∧ ki_delL its j = some q ∧ IntsAre q (as.erase x) := by
  induction h with
  | nil => cases hx
  | @cons n t vs ns hr ih =>
    by_cases e : n = x
    · subst e
      exact ⟨0, vs, by simp [kf_at, isInt], rfl, by simpa using hr⟩
    · rcases List.mem_cons.mp hx with q | q
      · exact absurd q.symm e
      · obtain ⟨j, q, h1, h2, h3⟩ := ih q
        have hb : (n == x) = false := by simpa using e
        refine ⟨j + 1, .int n t :: q, by simp [kf_at, isInt, hb, h1], by simp [ki_delL, h2], ?_⟩
        rw [List.erase_cons, hb]
        exact .cons _ _ h3
theorem ints_miss {x : Int} {its : List Value} {as : List Int} (h : IntsAre its as) (hx : x ∉ as) : ∀ y ∈ its, isInt x y = false := by
  induction h with
  | nil => intro y hy; cases hy
  | @cons n t vs ns hr ih =>
    intro y hy
    rcases List.mem_cons.mp hy with rfl | hy
    · simp only [isInt, beq_eq_false_iff_ne]; rintro rfl; exact hx (.head _)
    · exact ih (fun q => hx (.tail _ q)) y hy
theorem allLt_mem {d : Addr} : ∀ {l : List (Addr × Obj)}, AllLt d l → ∀ p ∈ l, p.1 < d
  | [], _, _, h => nomatch h
  | q :: r, x, p, h => by
    rcases List.mem_cons.mp h with rfl | h
    · exact x.1
    · exact allLt_mem x.2 p h
section
variable {prog : Program} {w : World} {A : Around} {E : Value → Shared → Prop} {s : Shared} {h₀ : Heap} {L D : Addr} {m : Str → Option Value} {news : List (Addr × Obj)} {n : Nat}
theorem remove_hit {its : List Value} {as : List Int} {x : Int} {t : Tok} {g : Obj → List (Addr × Obj)} {Q : Value → Shared → Prop} (F : Fr h₀ L s.heap m) (N : News h₀ L s.heap news) (hi : IntsAre its as) (hx : x ∈ as) (U : ∀ o, Upd D (listOf its.toArray n) o news (g o)) (hz : its.length ≤ sizeLine)
    (h : ∀ h' q, IntsAre q (as.erase x) → Fr h₀ L h' m → News h₀ L h' (g (listOf q.toArray (n + 1))) → Q .none { s with heap := h' }) : wpAny (model prog w) A (call (.builtin "list.remove") [.ref D, .int x t]) Q E s := by
  obtain ⟨j, q, h1, h2, h3⟩ := ints_hit hi hx
  exact kf_remove F N (ints_all hi) h1 h2 (U _) hz fun h' F' N' => h h' q h3 F' N'
theorem remove_miss {its : List Value} {as : List Int} {x : Int} {t : Tok} {Q : Value → Shared → Prop} (hD : s.heap.get? D = some (listOf its.toArray n)) (hh : A.handled = none) (hi : IntsAre its as) (hx : x ∉ as)
    (h : ∀ h' tk e, Heap.NewExc s.heap h' e "ValueError" → E (.ref e) { s with heap := h', toks := tk }) : wpAny (model prog w) A (call (.builtin "list.remove") [.ref D, .int x t]) Q E s := by
  have hm := ints_miss hi hx
  refine call_meets PySem.F.slot_list_remove ⟨_, hD, rfl⟩ PySem.F.entry_list_remove (PySem.F.args_list_remove_2 _ _)
    (MeetsSeq.list_remove_none D its.toArray n (.int x t) (isInt x) (fun y hy => kf_eq (ints_all hi) y (by simpa using hy)) (fun k hk => hm _ (by simp))) ⟨hD, hh, h⟩
end
local macro_rules | `(tactic| walk_at "exec While Name cons nil") => `(tactic| refine Stop.out ?_)
local macro_rules | `(tactic| walk_at "call builtin:list.remove") => `(tactic| refine Stop.out ?_)
local macro_rules | `(tactic| walk_at "truthy ref") => `(tactic| k_extra "truth")
local macro_rules | `(tactic| walk_at "call builtin:list.pop") => `(tactic| k_extra "pop")
local macro_rules | `(tactic| walk_at "call builtin:list.append") => `(tactic| k_extra "append")
local macro_rules | `(tactic| walk_at "ite") => `(tactic| k_extra "ite")
local macro_rules | `(tactic| k_all) => `(tactic| k_extra "apart")
set_option maxHeartbeats 0 in
theorem uld_call {prog : Program} {w : World} {mean : ExcName → Option Value} {mg mb : Str → Option Value} {A : Around} {s : Shared} {E : Value → Shared → Prop} {Q : Value → Shared → Prop} {l : List Env} {frs : List (Addr × Obj)} {e0 a0 : Addr} {vsE vsA : Array Value} {cE cA : Nat} {es as : List Int}
    (W : Wd w mean mg mb (hideAll s.heap (e0 :: a0 :: frs.map (·.1)))) (R : Rm 0 A) (hfr : A.frames = some l) (Fs : Frs l frs) (hF : ∀ p ∈ frs, s.heap.get? p.1 = some p.2)
    (he : s.heap.get? e0 = some (listOf vsE cE)) (ha : s.heap.get? a0 = some (listOf vsA cA)) (hve : IntsAre vsE.toList es) (hva : IntsAre vsA.toList as) (hne : e0 ≠ a0) (hlen : es.length ≤ 100) (hlen2 : as.length ≤ 100)
    (hQ : ∀ (T M : Addr) (h' : Heap) tk' vsM cM vsA' cA' frs', SameUp frs frs' → (∀ p ∈ frs', h'.get? p.1 = some p.2) → (∀ b o, b ≠ e0 → b ≠ a0 → b ∉ frs.map (·.1) → s.heap.get? b = some o → h'.get? b = some o) → s.heap.get? T = none → s.heap.get? M = none →
      h'.get? T = some { cls := .type "tuple", data := .seq #[.ref M, .ref a0] } → h'.get? M = some (listOf vsM cM) → IntsAre vsM.toList (uld es.reverse as []).1 → h'.get? a0 = some (listOf vsA' cA') → IntsAre vsA'.toList (uld es.reverse as []).2 → Q (.ref T) { s with heap := h', toks := tk' }) :
    wpAny (model prog w) A (call (.ref 35) [.ref e0, .ref a0]) Q E s := by
  obtain ⟨X, T⟩ := W
  obtain ⟨hd', dp, fr, gd, un⟩ := A
  obtain ⟨r1, r2, r3⟩ := R
  dsimp only at r1 r2 r3 hfr
  subst r1 hfr
  w_on
  have fl2 : (fun (_ : OpenLaw) (_ : Params → Frag) => True) PySem.Challenge.rw_ny0066_01 Mine.hd.heap_39 := by
    k_fill
    trivial
  clear fl2
  refine' enter (K := hd.heap_39 w.params) (binds := [(Str.ofString "expected", .ref e0), (Str.ofString "actual", .ref a0)]) (e0 :: a0 :: frs.map (·.1)) (X.keeps fun b o e => of_hideAll _ e) (T.nolimit.keeps fun b o e => of_hideAll _ e) ?k6 ?k7 ?k8 ?k9 ?kB ?_ ?c2 ?c3 ?c4 ?c5
  case k6 => k_is
  case k7 => k_is
  case k8 => simp only [recursionLimit]; omega
  case k9 => exact BindsTo.of_eq rfl
  case kB => exact locs rfl
  case c2 => exact rfl
  case c3 => exact rfl
  case c4 => exact rfl
  case c5 => decide
  intro L h₁ hL F K1
  have hlt : ∀ {b o}, s.heap.get? b = some o → b ≠ L := fun {b o} e q => by
    have := Heap.lt_size e; rw [q, hL] at this; exact Nat.lt_irrefl _ this
  have N : News (hideAll s.heap (e0 :: a0 :: frs.map (·.1))) L h₁ ((e0, listOf vsE cE) :: (a0, listOf vsA cA) :: frs) := by
    intro p hp
    rcases List.mem_cons.mp hp with rfl | hp
    · exact ⟨K1 _ _ he, hlt he, hideAll_none _ (by simp)⟩
    · rcases List.mem_cons.mp hp with rfl | hp
      · exact ⟨K1 _ _ ha, hlt ha, hideAll_none _ (by simp)⟩
      · exact ⟨K1 _ _ (hF p hp), hlt (hF p hp), hideAll_none _ (List.mem_cons_of_mem _ (List.mem_cons_of_mem _ (List.mem_map_of_mem hp)))⟩
  have hfe : ∀ p ∈ frs, p.1 ≠ e0 ∧ p.1 ≠ a0 := fun p hp => by
    obtain ⟨es', ep, hd⟩ := Fs.dict p hp
    have := hF p hp
    constructor
    · intro q; rw [q, he] at this; injection this with this; rw [← this] at hd; cases hd
    · intro q; rw [q, ha] at this; injection this with this; rw [← this] at hd; cases hd
  have hkeep : ∀ h' : Heap, (∀ b o, (hideAll s.heap (e0 :: a0 :: frs.map (·.1))).get? b = some o → h'.get? b = some o) → ∀ b o, b ≠ e0 → b ≠ a0 → b ∉ frs.map (·.1) → s.heap.get? b = some o → h'.get? b = some o := fun h' k b o h1 h2 h3 e =>
    k b o (hideAll_get _ e (by simp only [List.mem_cons]; rintro (q | q | q); exact h1 q; exact h2 q; exact h3 q))
  have hnone : ∀ b, (hideAll s.heap (e0 :: a0 :: frs.map (·.1))).get? b = none → b ≠ e0 → b ≠ a0 → b ∉ frs.map (·.1) → s.heap.get? b = none := fun b hb h1 h2 h3 => by
    cases q : s.heap.get? b with
    | none => rfl
    | some o => rw [hideAll_get _ q (by simp only [List.mem_cons]; rintro (q | q | q); exact h1 q; exact h2 q; exact h3 q)] at hb; cases hb
  generalize hideAll s.heap (e0 :: a0 :: frs.map (·.1)) = g at *
  replace hne := neN hne
  k_with_none
  k_steps
  refine Stop.on ?_
  rename Fr _ _ _ _ => F0
  rename News _ _ _ _ => N0
  rename _ ∧ _ ∧ AllLt _ frs => hM0
  rename_i M hA hB
  have hMe : M ≠ e0 := neN (Nat.ne_of_gt hM0.1)
  have hMa : M ≠ a0 := neN (Nat.ne_of_gt hM0.2.1)
  have hMf : ∀ p ∈ frs, p.1 ≠ M := fun p hp => Nat.ne_of_lt (allLt_mem hM0.2.2 p hp)
  refine' While_inv (fun k m news => ∃ (ve va vm : List Value) (es1 as1 ms1 : List Int) (ce ca cm : Nat) (frs1 : List (Addr × Obj)), SameUp frs frs1 ∧ Frs l frs1 ∧ m (Str.ofString "expected") = some (.ref e0) ∧ m (Str.ofString "actual") = some (.ref a0) ∧ m (Str.ofString "missing") = some (.ref M) ∧
    news = (M, listOf vm.toArray cm) :: (e0, listOf ve.toArray ce) :: (a0, listOf va.toArray ca) :: frs1 ∧ IntsAre ve es1 ∧ IntsAre va as1 ∧ IntsAre vm ms1 ∧ uld es1.reverse as1 ms1 = uld es.reverse as [] ∧ k = es1.length ∧ es1.length + ms1.length ≤ 100 ∧ as1.length ≤ 100) F0 N0 ?h0 ?turn (hE := passes_false)
  case h0 => exact ⟨vsE.toList, vsA.toList, [], es, as, [], cE, cA, 0, frs, SameUp.refl _, Fs, rfl, rfl, rfl, by simp, hve, hva, .nil, rfl, rfl, by simpa using hlen, hlen2⟩
  case turn =>
    intro k m1 news1 h2 tk2 F2 N2 hJ
    obtain ⟨ve, va, vm, es1, as1, ms1, ce, ca, cm, frs1, SU1, Fs1, m1a, m1b, m1c, rfl, i1, i2, i3, e1, e2, b1, b2⟩ := hJ
    have F3 := Fr_over [(_, _), (_, _), (_, _)] F2 ⟨m1a, m1b, m1c, trivial⟩
    dsimp only [over] at F3
    clear F2 F0 N0
    have hf1 : ∀ p ∈ frs1, p.1 ≠ M ∧ p.1 ≠ e0 ∧ p.1 ≠ a0 := fun p hp => by
      obtain ⟨q, hq, e⟩ := SU1.fwd p hp
      rw [e]
      exact ⟨hMf q hq, hfe q hq⟩
    have l1 := IntsAre.length i1
    have l2 := IntsAre.length i2
    have l3 := IntsAre.length i3
    k_with "truth" => k_dflt (refine wpAny_truthy_list (items := ve.toArray) ⟨_, (N2 _ (.tail _ (.head _))).1, rfl, _, rfl⟩ (by rw [List.size_toArray]; omega) ?_)
    rcases List.eq_nil_or_concat es1 with rfl | ⟨es2, x, rfl⟩
    · cases i1
      k_with "ite" => rw [if_neg (by decide)]
      k_steps
      rename Fr _ _ _ _ => F9
      rename News _ _ _ _ => N9
      rename _ ∧ _ ∧ _ ∧ AllLt _ _ => hD9
      dsimp only
      have eu : uld es.reverse as [] = (ms1, as1) := by rw [← e1]; rfl
      have hfresh : ∀ b, g.get? b = none → (e0 < b ∧ a0 < b) → (∀ p ∈ frs1, p.1 < b) → s.heap.get? b = none := fun b hb hlt' hfr' => by
        refine hnone b hb (neN (Nat.ne_of_gt hlt'.1)) (neN (Nat.ne_of_gt hlt'.2)) fun q => ?_
        obtain ⟨p, hp, e⟩ := List.mem_map.mp q
        obtain ⟨sl, hp'⟩ := SU1.back p hp
        have := hfr' _ hp'
        rw [show (p.1, ({ p.2 with slots := sl } : Obj)).1 = b from e] at this
        exact Nat.lt_irrefl _ this
      refine hQ _ M _ _ vm.toArray cm va.toArray ca frs1 SU1 (fun p hp => (N9 p (.tail _ (.tail _ (.tail _ (.tail _ hp))))).1) (hkeep _ F9.keep) (hfresh _ (N9 _ (.head _)).2.2 ⟨hD9.2.1, hD9.2.2.1⟩ (allLt_mem hD9.2.2.2)) (hfresh _ (N9 _ (.tail _ (.head _))).2.2 ⟨hM0.1, hM0.2.1⟩ fun p hp => ?_) (N9 _ (.head _)).1 (N9 _ (.tail _ (.head _))).1 (by rw [eu]; exact i3) (N9 _ (.tail _ (.tail _ (.tail _ (.head _))))).1 (by rw [eu]; exact i2)
      obtain ⟨q, hq, e⟩ := SU1.fwd p hp
      rw [e]
      exact allLt_mem hM0.2.2 q hq
    · have hve0 : (!ve.toArray.isEmpty) = true := by
        cases ve with
        | nil => simp at l1
        | cons _ _ => rfl
      have hve1 : 0 < ve.length := by rw [l1]; simp
      have hve2 : ve.length ≤ sizeLine := by rw [sizeLine_eq]; omega
      have hapE : ∀ p ∈ (a0, listOf va.toArray ca) :: frs1, p.1 ≠ e0 := fun p hp => by
        rcases List.mem_cons.mp hp with rfl | hp
        · exact neN hne.symm
        · exact (hf1 p hp).2.1
      k_with "ite" => rw [if_pos hve0]
      k_with "pop" => (k_dflt (refine kpa_pop F3 N2 (Upd.tail hMe (Upd.head hapE)) i1 hve1 hve2 ?_); intro h4 t4 F4 N4 i4)
      k_steps
      refine Stop.on ?_
      dsimp only [List.cons_append, List.nil_append]
      rename Fr _ _ _ _ => F5
      rename News _ _ _ _ => N5
      simp only [List.concat_eq_append, List.dropLast_concat, List.reverse_append, List.reverse_cons, List.reverse_nil, List.nil_append, List.cons_append, List.length_append, List.length_singleton] at i4 e1 e2 b1
      have hgl : (es2.concat x).getLastD 0 = x := by simp
      rw [hgl] at F5 ⊢
      by_cases hx : x ∈ as1
      · rw [uld, if_pos hx] at e1
        refine remove_hit F5 N5 i2 hx (fun o => Upd.tail hMa (Upd.tail (neN hne) (Upd.head fun p hp => (hf1 p hp).2.2))) (by rw [sizeLine_eq]; omega) ?_
        intro h6 q hq F6 N6
        k_steps
        refine WhileStep.intro (n' := es2.length) (by k_asm) (by k_asm) (by omega) ⟨_, q, vm, es2, as1.erase x, ms1, _, _, cm, frs1, SU1, Fs1, rfl, rfl, rfl, rfl, i4, hq, i3, e1, rfl, by omega, ?_⟩
        have := List.length_erase_of_mem hx
        omega
      · rw [uld, if_neg hx] at e1
        refine remove_miss (N5 _ (.tail _ (.tail _ (.head _)))).1 rfl i2 hx ?_
        intro h6 tk6 e6 hx6
        refine catch_value (new := [_, _, _]) rfl Fs1 hx6 F5 N5 ?_ T ?_ rfl rfl
        · intro p hp hq
          have hNp := N5 p (by
            simp only [List.mem_cons, List.not_mem_nil, or_false] at hp
            rcases hp with rfl | rfl | rfl
            · exact .head _
            · exact .tail _ (.head _)
            · exact .tail _ (.tail _ (.head _)))
          rcases List.mem_cons.mp hq with q | q
          · exact hNp.2.1 q
          · obtain ⟨r, hr, e⟩ := List.mem_map.mp q
            have := hf1 r hr
            simp only [List.mem_cons, List.not_mem_nil, or_false] at hp
            rcases hp with rfl | rfl | rfl
            · exact this.1 e
            · exact this.2.1 e
            · exact this.2.2 e
        intro h7 frs2 SU2 Fs2 F7 N7
        dsimp only [List.cons_append, List.nil_append] at N7
        have hf2 : ∀ p ∈ frs2, p.1 ≠ M ∧ p.1 ≠ e0 ∧ p.1 ≠ a0 := fun p hp => by
          obtain ⟨q, hq, e⟩ := SU2.fwd p hp
          rw [e]
          exact hf1 q hq
        have hapM : ∀ p ∈ (e0, listOf ve.dropLast.toArray (ce + 1)) :: (a0, listOf va.toArray ca) :: frs2, p.1 ≠ M := fun p hp => by
          rcases List.mem_cons.mp hp with rfl | hp
          · exact neN hMe.symm
          · rcases List.mem_cons.mp hp with rfl | hp
            · exact neN hMa.symm
            · exact (hf2 p hp).1
        have hvm2 : vm.toArray.size ≤ sizeLine := by rw [sizeLine_eq, List.size_toArray]; omega
        k_with "append" => ((dsimp only [List.cons_append, List.nil_append]); k_dflt (refine append_K F7 N7 (Upd.head hapM) ?_ hvm2); intro h8 F8 N8)
        clear F5 N5
        k_steps
        refine WhileStep.intro (n' := es2.length) (by k_asm) (by k_asm) (by omega) ⟨_, va, vm ++ [.int x t4], es2, as1, ms1 ++ [x], ce + 1, ca, cm + 1, frs2, SU1.trans SU2, Fs2, rfl, rfl, rfl, ?_, i4, i2, ints_snoc i3, e1, rfl, by rw [List.length_append]; simp only [List.length_singleton]; omega, b2⟩
        simp
end Mine
end
section
namespace Mine
theorem uld_append : ∀ (r1 r2 as ms : List Int), uld (r1 ++ r2) as ms = uld r2 (uld r1 as ms).2 (uld r1 as ms).1
  | [], r2, as, ms => rfl
  | x :: r1, r2, as, ms => by
    have e : ∀ (r as ms : List Int), uld (x :: r) as ms = if x ∈ as then uld r (as.erase x) ms else uld r as (ms ++ [x]) := fun _ _ _ => rfl
    show uld (x :: (r1 ++ r2)) as ms = _
    rw [e, e]
    by_cases h : x ∈ as
    · rw [if_pos h, if_pos h]; exact uld_append r1 r2 _ _
    · rw [if_neg h, if_neg h]; exact uld_append r1 r2 _ _
theorem uld_perm : ∀ (r as ms : List Int), r.Perm as → uld r as ms = (ms, [])
  | [], as, ms, h => by rw [List.Perm.eq_nil h.symm]; rfl
  | x :: r, as, ms, h => by
    have hx : x ∈ as := h.subset (.head _)
    unfold uld
    rw [if_pos hx]
    exact uld_perm r _ ms ((List.cons_perm_iff_perm_erase.mp h).2)
theorem uld_nil : ∀ (r ms : List Int), uld r [] ms = (ms ++ r, [])
  | [], ms => by simp [uld]
  | x :: r, ms => by
    unfold uld
    rw [if_neg (by simp), uld_nil r]
    simp
theorem sixes_digits {n : Int} (h0 : 0 ≤ n) (h1 : n < 16777216) : sixesOf n = List.replicate (4 - (digitsOf n).length) 0 ++ digitsOf n := by
  unfold sixesOf digitsOf
  split
  · simp [List.replicate]; omega
  · split
    · simp [List.replicate]; omega
    · split
      · simp [List.replicate]; omega
      · simp
theorem uld_law {n : Int} (h0 : 0 ≤ n) (h1 : n < 16777216) : uld (sixesOf n).reverse (digitsOf n) [] = (List.replicate (4 - (digitsOf n).length) 0, []) := by
  rw [sixes_digits h0 h1, List.reverse_append, uld_append, uld_perm _ _ _ (List.reverse_perm _), uld_nil, List.nil_append, List.reverse_replicate]
end Mine
end
section
open PySem PySem.W PyProof.Rows PySem.Calls PySem.Spec
set_option maxRecDepth 100000
namespace Mine
/-- a value reads as a datum -/
def Rd (h : Heap) (v : Value) (d : Dat) : Prop := ∃ as, Reads h v (kqdP d) as
def RdAll (h : Heap) (vs : List Value) (ds : List Dat) : Prop := ∃ as, ReadsAll h vs (kqdPs ds) as
section
variable {h : Heap}
theorem RdAll.nil : RdAll h [] [] := ⟨_, .nil⟩
theorem RdAll.cons {v : Value} {vs : List Value} {d : Dat} {ds : List Dat} (a : Rd h v d) (b : RdAll h vs ds) : RdAll h (v :: vs) (d :: ds) := by
  obtain ⟨as, ra⟩ := a
  obtain ⟨bs, rb⟩ := b
  exact ⟨as ++ bs, .cons ra rb⟩
theorem Rd.int (i : Int) (t : Tok) : Rd h (.int i t) (.int i) := ⟨_, .int i t⟩
theorem Rd.list {a : Addr} {vs : Array Value} {n : Nat} {ds : List Dat} (g : h.get? a = some (listOf vs n)) (r : RdAll h vs.toList ds) : Rd h (.ref a) (.list ds) := by
  obtain ⟨as, ra⟩ := r
  exact ⟨a :: as, .list g rfl rfl ra⟩
theorem Rd.listI {a : Addr} {vs : Array Value} {ds : List Dat} (g : h.IsList a vs) (r : RdAll h vs.toList ds) : Rd h (.ref a) (.list ds) := by
  obtain ⟨as, ra⟩ := r
  obtain ⟨o, ho, hc, n, hd⟩ := g
  exact ⟨a :: as, .list ho hc hd ra⟩
theorem Rd.tuple {a : Addr} {vs : Array Value} {n : Nat} {ds : List Dat} (g : h.get? a = some { cls := .type "tuple", data := .seq vs n }) (r : RdAll h vs.toList ds) : Rd h (.ref a) (.tuple ds) := by
  obtain ⟨as, ra⟩ := r
  exact ⟨as, .tuple g rfl rfl ra⟩
theorem RdAll.ints {vs : List Value} {ns : List Int} (i : IntsAre vs ns) : RdAll h vs (ns.map .int) := by
  induction i with
  | nil => exact .nil
  | cons n t _ ih => exact .cons (.int n t) ih
theorem Rd.ints {a : Addr} {vs : Array Value} {n : Nat} {ns : List Int} (g : h.get? a = some (listOf vs n)) (i : IntsAre vs.toList ns) : Rd h (.ref a) (.list (ns.map .int)) := .list g (.ints i)
theorem Rd.keeps {h' : Heap} {v : Value} {d : Dat} (r : Rd h v d) (k : ∀ b o, h.get? b = some o → h'.get? b = some o) : Rd h' v d := let ⟨as, ra⟩ := r; ⟨as, Reads.keeps k ra⟩
end
theorem okInts (ns : List Int) : ∀ d ∈ ns.map Dat.int, kqdOk 8 d = true := by
  intro d hd
  obtain ⟨n, _, rfl⟩ := List.mem_map.mp hd
  rfl
section
variable {prog : Program} {w : World} {A : Around} {E : Value → Shared → Prop} {s : Shared} {a b : Value} {d e : Dat} {Q : Value → Shared → Prop}
theorem shaped_of {n : Nat} (hn : n ≤ 64) (h : kqdOk n d = true) : SeqAt.shaped (kqdP d) = true := by
  have := kqd_lay n d h
  unfold SeqAt.shaped
  rw [this.1, Bool.true_and]
  exact decide_eq_true (Nat.le_trans this.2 hn)
theorem eqv_yes (h1 : kqdOk 9 d = true) : PyData.eqv (kqdP d) (kqdP d) = true := (kqd_eqv 9 d d 9 h1 h1).mpr rfl
theorem eqv_no (hne : d ≠ e) (h1 : kqdOk 9 d = true) (h2 : kqdOk 9 e = true) : PyData.eqv (kqdP d) (kqdP e) = false := Bool.eq_false_iff.mpr fun x => hne ((kqd_eqv 9 d e 9 h1 h2).mp x)
theorem eqD_yes (ra : Rd s.heap a d) (rb : Rd s.heap b d) (h1 : kqdOk 9 d = true) (hu : A.units + 64 < cLine) (h : Q (.bool true) s) : wpAny (model prog w) A (compareOp .Eq a b) Q E s := by
  obtain ⟨as, ra⟩ := ra
  obtain ⟨bs, rb⟩ := rb
  refine eq_dataH ra rb (shaped_of (by decide) h1) (shaped_of (by decide) h1) hu ?_
  rw [eqv_yes h1]; exact h
theorem eqD_no (ra : Rd s.heap a d) (rb : Rd s.heap b e) (hne : d ≠ e) (h1 : kqdOk 9 d = true) (h2 : kqdOk 9 e = true) (hu : A.units + 64 < cLine) (h : Q (.bool false) s) : wpAny (model prog w) A (compareOp .Eq a b) Q E s := by
  obtain ⟨as, ra⟩ := ra
  obtain ⟨bs, rb⟩ := rb
  refine eq_dataH ra rb (shaped_of (by decide) h1) (shaped_of (by decide) h2) hu ?_
  rw [eqv_no hne h1 h2]; exact h
theorem neD_no (ra : Rd s.heap a d) (rb : Rd s.heap b d) (h1 : kqdOk 9 d = true) (hu : A.units + 64 < cLine) (h : Q (.bool false) s) : wpAny (model prog w) A (compareOp .NotEq a b) Q E s := by
  obtain ⟨as, ra⟩ := ra
  obtain ⟨bs, rb⟩ := rb
  refine ne_dataH ra rb (shaped_of (by decide) h1) (shaped_of (by decide) h1) hu ?_
  rw [eqv_yes h1]; exact h
end
end Mine
end
section
local macro_rules | `(tactic| walk_at "no such key 0") => `(tactic| skip)
local macro_rules | `(tactic| walk_at "no such key 1") => `(tactic| skip)
local macro_rules | `(tactic| walk_at "no such key 2") => `(tactic| skip)
local macro_rules | `(tactic| walk_at "no such key 3") => `(tactic| skip)
local macro_rules | `(tactic| walk_at "no such key 4") => `(tactic| skip)
local macro_rules | `(tactic| walk_at "no such key 5") => `(tactic| skip)
local macro_rules | `(tactic| walk_at "no such key 6") => `(tactic| skip)
open PySem PySem.W PyProof.Rows PySem.Calls PySem.Spec
open PyProof.Rows.TI (Frs SameUp)
set_option maxRecDepth 100000
namespace Mine
section
variable {prog : Program} {w : World} {mean : ExcName → Option Value} {mg mb : Str → Option Value} {A : Around} {E : Value → Shared → Prop} {s : Shared} {h₀ : Heap} {L : Addr} {m : Str → Option Value} {news : List (Addr × Obj)}
theorem sixes_K {n : Int} {t : Tok} {Q : Value → Shared → Prop} (F : Fr h₀ L s.heap m) (N : News h₀ L s.heap news) (X : (hd.heap_39 w.params).In h₀) (T : Top hd.view_39 looseN mean mg mb h₀) (R : Rm 3 A) (h0 : 0 ≤ n) (h1 : n < 16777216)
    (h : ∀ D h' tk' (vs : List Value) c, Fr h₀ L h' m → News h₀ L h' ((D, listOf vs.toArray c) :: news) → (∀ p ∈ news, p.1 ≠ D) → IntsAre vs (sixesOf n) → Q (.ref D) { s with heap := h', toks := tk' }) : wpAny (model prog w) A (call (.ref 77) [.int n t]) Q E s :=
  sixes_call (Wd.keeps ⟨X, T⟩ F.keep) R h0 h1 fun D h' tk' k hN => by
    obtain ⟨hn, vs, c, h2, h3⟩ := hN
    exact h D h' tk' vs.toList c (Fr_keeps F k) (by simpa using News_add F (News_keeps N k) hn h2) (fun p hp q => by have := (N p hp).1; rw [q, hn] at this; cases this) h3
theorem digits_K {n : Int} {t : Tok} {Q : Value → Shared → Prop} (F : Fr h₀ L s.heap m) (N : News h₀ L s.heap news) (X : (hd.heap_39 w.params).In h₀) (T : Top hd.view_39 looseN mean mg mb h₀) (R : Rm 0 A) (h0 : 0 ≤ n) (h1 : n < 16777216)
    (h : ∀ D h' tk' (vs : List Value) c, Fr h₀ L h' m → News h₀ L h' ((D, listOf vs.toArray c) :: news) → (∀ p ∈ news, p.1 ≠ D) → IntsAre vs (digitsOf n) → Q (.ref D) { s with heap := h', toks := tk' }) : wpAny (model prog w) A (call (.ref 84) [.int n t]) Q E s :=
  digits_call (Wd.keeps ⟨X, T⟩ F.keep) R h0 h1 fun D h' tk' k hN => by
    obtain ⟨hn, vs, c, h2, h3⟩ := hN
    exact h D h' tk' vs.toList c (Fr_keeps F k) (by simpa using News_add F (News_keeps N k) hn h2) (fun p hp q => by have := (N p hp).1; rw [q, hn] at this; cases this) h3
theorem len_at {l : Addr} {items : Array Value} {k : Int} {Q : Value → Shared → Prop} (hl : s.heap.IsList l items) (e : (items.size : Int) = k) (hf : k < 2 ^ 63) (h : ∀ t tk, Q (.int k t) { s with toks := tk }) : wpAny (model prog w) A (call (.builtin "len") [.ref l]) Q E s := by
  subst e
  exact len_list hl hf (h _ _)
theorem mul_items (v : Value) (k : Nat) : (List.foldl (fun x1 x2 => x1 ++ x2) (#[] : Array Value) (List.replicate k #[v])) = (List.replicate k v).toArray := by
  have : ∀ (k : Nat) (a : Array Value), List.foldl (fun x1 x2 => x1 ++ x2) a (List.replicate k #[v]) = a ++ (List.replicate k v).toArray := by
    intro k
    induction k with
    | zero => intro a; simp
    | succ k ih => intro a; rw [List.replicate_succ, List.foldl_cons, ih, List.replicate_succ]; apply Array.toList_inj.mp; simp
  rw [this]; simp
theorem ints_rep (i : Int) (t : Tok) (k : Nat) : IntsAre (List.replicate k (.int i t)) (List.replicate k i) := by
  induction k with
  | zero => exact .nil
  | succ k ih => exact .cons _ _ ih
theorem mul_K {l : Addr} {i x : Int} {t u : Tok} {c : Nat} {Q : Value → Shared → Prop} (F : Fr h₀ L s.heap m) (N : News h₀ L s.heap news) (hm : (l, listOf #[.int i t] c) ∈ news) (h0 : 0 ≤ x) (h1 : x ≤ 100)
    (h : ∀ D h' (vs : List Value), Fr h₀ L h' m → News h₀ L h' ((D, listOf vs.toArray 0) :: news) → (∀ p ∈ news, p.1 < D) → IntsAre vs (List.replicate x.toNat i) → Q (.ref D) { s with heap := h' }) : wpAny (model prog w) A (binaryOp .Mult (.ref l) (.int x u)) Q E s := by
  refine mul_list F N (N _ hm).1 (by omega) (by omega) (by simp; omega) fun h' F' N' => ?_
  refine h _ h' (List.replicate x.toNat (.int i t)) F' ?_ (fun p hp => Heap.lt_size (N p hp).1) (ints_rep _ _ _)
  simpa [mul_items] using N'
theorem read_K {l : Addr} {vs : List Value} {c0 : Nat} {ds : List Int} {Q : Value → Shared → Prop} (F : Fr h₀ L s.heap m) (N : News h₀ L s.heap news) (X : (hd.heap_39 w.params).In h₀) (T : Top hd.view_39 looseN mean mg mb h₀) (R : Rm 1 A) (hm : (l, listOf vs.toArray c0) ∈ news) (hv : IntsAre vs ds)
    (hds : ∀ d ∈ ds, 0 ≤ d ∧ d < 64) (hlen : ds.length ≤ 4) (hne0 : ds ≠ [])
    (h : ∀ D D2 h' tk' t t1 t2 c c2, Fr h₀ L h' m → News h₀ L h' ((D, listOf #[.int (val64 ds) t, .ref D2] c) :: (D2, listOf #[.int 77 t1, .int 13 t2] c2) :: news) → Q (.ref D) { s with heap := h', toks := tk' }) : wpAny (model prog w) A (call (.ref 89) [.ref l]) Q E s :=
  read_call (Wd.keeps ⟨X, T⟩ F.keep) R (News.isList N hm) hv hds hlen hne0 fun D D2 h' tk' t t1 t2 c c2 k n1 n2 g1 g2 =>
    h D D2 h' tk' t t1 t2 c c2 (Fr_keeps F k) (News_add F (News_add F (News_keeps N k) n2 g2) n1 g1)
theorem uld_K {Q : Value → Shared → Prop} {env : Env} {l : List Env} {frs new new' : List (Addr × Obj)} {e0 a0 : Addr} {vE vA : List Value} {cE cA : Nat} {es as : List Int} (F : Fr h₀ L s.heap m) (N : News h₀ L s.heap (new ++ frs)) (X : (hd.heap_39 w.params).In h₀) (T : Top hd.view_39 looseN mean mg mb h₀) (R : Rm 0 A)
    (hA : A.frames = some (env :: l)) (hf : env.frame = some L) (hk : env.scope.kind = .function) (Fs : Frs l frs) (he : (e0, listOf vE.toArray cE) ∈ new) (ha : (a0, listOf vA.toArray cA) ∈ new) (hve : IntsAre vE es) (hva : IntsAre vA as) (hne : e0 ≠ a0) (hlen : es.length ≤ 100) (hlen2 : as.length ≤ 100)
    (hsub : ∀ p ∈ new', p ∈ new ∧ p.1 ≠ e0 ∧ p.1 ≠ a0) (hnd : new.all TI.notDict = true)
    (h : ∀ Tt M h' tk' (vm : List Value) cm (va : List Value) ca frs', SameUp frs frs' → Frs l frs' → Fr h₀ L h' m → News h₀ L h' ((Tt, { cls := .type "tuple", data := .seq #[.ref M, .ref a0] }) :: (M, listOf vm.toArray cm) :: (a0, listOf va.toArray ca) :: (new' ++ frs')) → IntsAre vm (uld es.reverse as []).1 → IntsAre va (uld es.reverse as []).2 → Q (.ref Tt) { s with heap := h', toks := tk' }) :
    wpAny (model prog w) A (call (.ref 35) [.ref e0, .ref a0]) Q E s := by
  obtain ⟨oL, es0, ep0, hL, hLd, hLk, hLf⟩ := F.ns
  have apart : ∀ p ∈ new, p.1 ∉ L :: frs.map (·.1) := fun p hp => TI.new_apart Fs N hnd hp
  have hE := N _ (List.mem_append_left _ he)
  have hAa := N _ (List.mem_append_left _ ha)
  have hLf0 : h₀.get? L = none := Heap.get?_none_of_le F.above
  refine uld_call (frs := (L, oL) :: frs) (Wd.keeps ⟨X, T⟩ fun b o e => hideAll_get _ (F.keep b o e) ?_) R hA ⟨by rw [hk]; decide, hf, ⟨es0, ep0, hLd⟩, Fs⟩ ?_ hE.1 hAa.1 (by simpa using hve) (by simpa using hva) hne hlen hlen2 ?_
  · simp only [List.map_cons, List.mem_cons]
    rintro (q | q | q | q)
    · have := hE.2.2; dsimp only at this; rw [← q, e] at this; cases this
    · have := hAa.2.2; dsimp only at this; rw [← q, e] at this; cases this
    · rw [q, hLf0] at e; cases e
    · obtain ⟨p, hp, q⟩ := List.mem_map.mp q
      have := (N p (List.mem_append_right _ hp)).2.2; rw [q, e] at this; cases this
  · intro p hp
    rcases List.mem_cons.mp hp with rfl | hp
    · exact hL
    · exact (N p (List.mem_append_right _ hp)).1
  · intro Tt M h' tk' vm cm va ca frs2 SU hfr2 hkp hT hM gT gM iM gA iA
    cases frs2 with
    | nil => exact False.elim SU
    | cons q frs3 =>
      obtain ⟨q1, ⟨sl, q2⟩, SU3⟩ := SU
      have hq := hfr2 q (.head _)
      dsimp only at q1 q2
      rw [q1, q2] at hq
      have gkeep : ∀ b o, b ≠ e0 → b ≠ a0 → b ≠ L → b ∉ frs.map (·.1) → s.heap.get? b = some o → h'.get? b = some o := fun b o x1 x2 x3 x4 e => hkp b o x1 x2 (by simp only [List.map_cons, List.mem_cons]; rintro (r | r); exact x3 r; exact x4 r) e
      have F' : Fr h₀ L h' m := ⟨⟨_, es0, ep0, hq, hLd, hLk, hLf⟩, fun b o e => gkeep b o (fun r => by have := hE.2.2; dsimp only at this; rw [← r, e] at this; cases this) (fun r => by have := hAa.2.2; dsimp only at this; rw [← r, e] at this; cases this) (fun r => by rw [r, hLf0] at e; cases e) (fun r => by
        obtain ⟨p, hp, r⟩ := List.mem_map.mp r
        have := (N p (List.mem_append_right _ hp)).2.2; rw [r, e] at this; cases this) (F.keep b o e), F.above⟩
      have hfresh : ∀ b, s.heap.get? b = none → b ≠ L ∧ h₀.get? b = none := fun b hb => by
        constructor
        · intro r; rw [r, hL] at hb; cases hb
        · cases r : h₀.get? b with
          | none => rfl
          | some x => have := F.keep _ _ r; rw [hb] at this; cases this
      refine h Tt M h' tk' vm.toList cm va.toList ca frs3 SU3 (Fs.up SU3) F' ?_ iM iA
      intro p hp
      rcases List.mem_cons.mp hp with rfl | hp
      · exact ⟨gT, hfresh _ hT⟩
      rcases List.mem_cons.mp hp with rfl | hp
      · exact ⟨by simpa using gM, hfresh _ hM⟩
      rcases List.mem_cons.mp hp with rfl | hp
      · exact ⟨by simpa using gA, hAa.2⟩
      rcases List.mem_append.mp hp with hp | hp
      · obtain ⟨x1, x2, x3⟩ := hsub p hp
        have y := N p (List.mem_append_left _ x1)
        have z := apart p x1
        simp only [List.mem_cons, not_or] at z
        exact ⟨gkeep _ _ x2 x3 z.1 z.2 y.1, y.2⟩
      · obtain ⟨r, hr, e⟩ := SU3.fwd p hp
        refine ⟨hfr2 p (.tail _ hp), ?_⟩
        rw [e]
        exact (N r (List.mem_append_right _ hr)).2
end
local macro_rules | `(tactic| walk_at "call ref") => `(tactic| (k_here; (try dsimp only [List.cons_append, List.nil_append]); k_dflt (first
  | (refine' sixes_K ?F ?N ?X ?T ?R ?a ?b ?_; (case F => k_asm); (case N => k_asm); (case X => k_asm); (case T => k_asm); (case R => k_extra "room3"); (case a => assumption); (case b => assumption); k_whole)
  | (refine' digits_K ?F ?N ?X ?T ?R ?a ?b ?_; (case F => k_asm); (case N => k_asm); (case X => k_asm); (case T => k_asm); (case R => k_extra "room0"); (case a => assumption); (case b => assumption); k_whole)); intro D' h' tk' vs' c' F' N' l1 i'; (try k_sweep)))
local macro_rules | `(tactic| walk_at "call ref") => `(tactic| ((with_reducible show wpAny _ _ (call _ [_, _]) _ _ _); refine Stop.out ?_))
local macro_rules | `(tactic| walk_at "subscriptTail Name Slice ref ref") => `(tactic| (k_here; k_dflt (refine' kmk_slice_ints ?F ?N ?l IsPart.none IsPart.none ?i ?m rfl ?_ ?s ?t ?z; (case F => k_asm); (case N => k_asm); (case l => exact News.isList (by k_asm) (by k_mem)); (case i => assumption); (case m => exact kmk_all (by assumption)); (case s => with_unfolding_all rfl); (case t => kmk_pure); (case z => exact kmk_sz (by assumption) (by assumption))); intro D' ws' h' F' N' l1 hI' hC' hL'; (try k_sweep)))
local macro_rules | `(tactic| walk_at "call builtin:len") => `(tactic| ((try dsimp only [List.cons_append, List.nil_append]); k_dflt (refine' len_at ?l ?e ?f ?_; (case l => exact News.isList (by k_asm) (by k_mem)); (case e => k_extra "len"); (case f => omega)); intro t' tk'; (try dsimp only)))
local macro_rules | `(tactic| walk_at "binaryOp Mult ref int") => `(tactic| (k_dflt (refine' mul_K ?F ?N ?m ?a ?b ?_; (case F => k_asm); (case N => k_asm); (case m => k_mem); (case a => omega); (case b => omega)); intro D' h' vs' F' N' l1 i'; (try k_sweep)))
local macro_rules | `(tactic| walk_at "call ref") => `(tactic| (k_here; (try dsimp only [List.cons_append, List.nil_append]); k_dflt (
  (refine' read_K ?F ?N ?X ?T ?R ?m ?v ?d ?l ?e ?_; (case F => k_asm); (case N => k_asm); (case X => k_asm); (case T => k_asm); (case R => k_extra "room1"); (case m => k_mem); (case v => assumption); (case d => assumption); (case l => assumption); (case e => assumption); k_whole)); intro D' D2' h' tk' t' t1' t2' c' c2' F' N'; (try k_sweep)))
local macro_rules | `(tactic| walk_at "compareOp NotEq ref ref") => `(tactic| refine Stop.out ?_)
local macro_rules | `(tactic| walk_at "compareOp Eq ref ref") => `(tactic| refine Stop.out ?_)
theorem sixes_len (n : Int) : (sixesOf n).length ≤ sizeLine := by simp [sixesOf, sizeLine]
theorem digits_len (n : Int) : (digitsOf n).length ≤ 4 ∧ 1 ≤ (digitsOf n).length := by
  unfold digitsOf
  repeat (first | split | simp)
theorem val_sixes {n : Int} (h0 : 0 ≤ n) (h1 : n < 16777216) : val64 (sixesOf n) = n := by
  simp only [val64, sixesOf, List.foldl]; omega
theorem val_digits {n : Int} (h0 : 0 ≤ n) (h1 : n < 16777216) : val64 (digitsOf n) = n := by
  unfold digitsOf
  repeat (first | split | (simp only [val64, List.foldl]; omega))
theorem digits_range {n : Int} (h0 : 0 ≤ n) (h1 : n < 16777216) : ∀ i ∈ digitsOf n, 0 ≤ i ∧ i < 64 := by
  intro i hi
  exact sixes_range h0 h1 i (by rw [sixes_digits h0 h1]; exact List.mem_append_right _ hi)
theorem digits_len' (n : Int) : (digitsOf n).length ≤ sizeLine := Nat.le_trans (digits_len n).1 (by decide)
set_option maxHeartbeats 0 in
theorem right_call {prog : Program} {w : World} {mean : ExcName → Option Value} {mg mb : Str → Option Value} {A : Around} {s : Shared} {E : Value → Shared → Prop} {Q : Value → Shared → Prop} {l : List Env} {frs : List (Addr × Obj)} {n : Int} {t : Tok}
    (W : Wd w mean mg mb (hideAll s.heap (frs.map (·.1)))) (R : Rm 4 A) (hfr : A.frames = some l) (Fs : Frs l frs) (hF : ∀ p ∈ frs, s.heap.get? p.1 = some p.2) (h0 : 0 ≤ n) (h1 : n < 16777216)
    (hQ : ∀ (h' : Heap) tk' frs', SameUp frs frs' → (∀ p ∈ frs', h'.get? p.1 = some p.2) → (∀ b o, b ∉ frs.map (·.1) → s.heap.get? b = some o → h'.get? b = some o) → Q (.bool true) { s with heap := h', toks := tk' }) :
    wpAny (model prog w) A (call (.ref 96) [.int n t]) Q E s := by
  obtain ⟨X, T⟩ := W
  obtain ⟨hd', dp, fr, gd, un⟩ := A
  obtain ⟨r1, r2, r3⟩ := R
  dsimp only at r1 r2 r3 hfr
  subst r1 hfr
  w_on
  have fl2 : (fun (_ : OpenLaw) (_ : Params → Frag) => True) PySem.Challenge.rw_ny0066_01 Mine.hd.heap_39 := by
    k_fill
    trivial
  clear fl2
  refine' enter (K := hd.heap_39 w.params) (binds := [(Str.ofString "number", .int n t)]) (frs.map (·.1)) (X.keeps fun b o e => of_hideAll _ e) (T.nolimit.keeps fun b o e => of_hideAll _ e) ?k6 ?k7 ?k8 ?k9 ?kB ?_ ?c2 ?c3 ?c4 ?c5
  case k6 => k_is
  case k7 => k_is
  case k8 => simp only [recursionLimit]; omega
  case k9 => exact BindsTo.of_eq rfl
  case kB => exact locs rfl
  case c2 => exact rfl
  case c3 => exact rfl
  case c4 => exact rfl
  case c5 => decide
  intro L h₁ hL F K1
  have hlt : ∀ {b o}, s.heap.get? b = some o → b ≠ L := fun {b o} e q => by
    have := Heap.lt_size e; rw [q, hL] at this; exact Nat.lt_irrefl _ this
  have N : News (hideAll s.heap (frs.map (·.1))) L h₁ frs := fun p hp => ⟨K1 _ _ (hF p hp), hlt (hF p hp), hideAll_none _ (List.mem_map_of_mem hp)⟩
  have hkeep : ∀ h' : Heap, (∀ b o, (hideAll s.heap (frs.map (·.1))).get? b = some o → h'.get? b = some o) → ∀ b o, b ∉ frs.map (·.1) → s.heap.get? b = some o → h'.get? b = some o := fun h' k b o h3 e =>
    k b o (hideAll_get _ e h3)
  generalize hideAll s.heap (frs.map (·.1)) = g at *
  have s6 := sixes_len n
  have s7 := digits_len' n
  k_with_none
  k_with "room3" => exact Rm.deeper (A := ⟨none, dp, some l, gd, un⟩) ⟨rfl, r2, r3⟩
  k_with "room0" => exact Rm.less (Rm.deeper (A := ⟨none, dp, some l, gd, un⟩) (k := 3) ⟨rfl, r2, r3⟩) (by decide)
  k_steps
  refine Stop.on ?_
  try dsimp only [List.cons_append, List.nil_append]
  rename Fr _ _ _ _ => F9
  rename News _ _ _ _ => N9
  rename_i D4 h7 tk1 vs1 c1 l14 i1 D3 h6 tk0 vs0 c0 l13 i0 D2 h5 l12 h4 h3 h2 D1 ws1 h1' l11 hI1 hC1 hL1 D0 ws0 h0' l10 hI0 hC0 hL0
  have hn7 := digits_len n
  refine uld_K (new := [_, _, _, _, _]) (new' := [(D3, listOf vs0.toArray c0), (D4, listOf vs1.toArray c1)]) F9 N9 X T (Rm.less (Rm.deeper (A := ⟨none, dp, some l, gd, un⟩) (k := 3) ⟨rfl, r2, r3⟩) (by decide)) rfl rfl rfl Fs (.tail _ (.head _)) (.head _) hI1 hI0 (neN (Nat.ne_of_lt (l10 _ (.head _)))) (by simp [sixesOf]) (by omega) ?_ rfl ?_
  · intro p hp
    rcases List.mem_cons.mp hp with rfl | hp
    · exact ⟨.tail _ (.tail _ (.tail _ (.head _))), neN (Nat.ne_of_lt (l11 _ (.tail _ (.head _)))), neN (Nat.ne_of_lt (l10 _ (.tail _ (.tail _ (.head _)))))⟩
    · obtain rfl := List.mem_singleton.mp hp
      exact ⟨.tail _ (.tail _ (.tail _ (.tail _ (.head _)))), neN (Nat.ne_of_lt (l11 _ (.tail _ (.tail _ (.head _))))), neN (Nat.ne_of_lt (l10 _ (.tail _ (.tail _ (.tail _ (.head _))))))⟩
  intro Tt M h10 tk10 vm cm va ca frs2 SU2 Fs2 F10 N10 iM iA
  rw [uld_law h0 h1] at iM iA
  dsimp only [List.cons_append, List.nil_append] at iM iA N10
  clear N9 F9 hC1 hL1 hC0 hL0 hI1 hI0 l14 l13
  have e4 : (vs1.toArray.size : Int) = 4 := by rw [List.size_toArray, IntsAre.length i1]; rfl
  have e3 : (vs0.toArray.size : Int) = (digitsOf n).length := by rw [List.size_toArray, IntsAre.length i0]
  have g6 := sixes_range h0 h1
  have g7 := digits_range h0 h1
  have g8 : (sixesOf n).length ≤ 4 := by simp [sixesOf]
  have g9 := hn7.1
  have g10 : sixesOf n ≠ [] := by simp [sixesOf]
  have g11 : digitsOf n ≠ [] := by intro q; have := hn7.2; rw [q] at this; simp at this
  k_with "len" => first | exact e4 | exact e3
  k_with "room1" => exact Rm.less (Rm.deeper (A := ⟨none, dp, some l, gd, un⟩) (k := 3) ⟨rfl, r2, r3⟩) (by decide)
  k_steps
  refine Stop.on ?_
  rename News _ _ _ _ => N11
  rename IntsAre _ (List.replicate (Int.toNat _) 0) => i11
  rw [show (4 - ((digitsOf n).length : Int)).toNat = 4 - (digitsOf n).length by omega] at i11
  refine neD_no (d := .tuple [.list ((List.replicate (4 - (digitsOf n).length) (0 : Int)).map .int), .list (([] : List Int).map .int)])
    (Rd.tuple (N11 _ (.tail _ (.tail _ (.tail _ (.tail _ (.head _)))))).1 (.cons (Rd.ints (N11 _ (.tail _ (.tail _ (.tail _ (.tail _ (.tail _ (.head _))))))).1 iM) (.cons (Rd.ints (N11 _ (.tail _ (.tail _ (.tail _ (.tail _ (.tail _ (.tail _ (.head _)))))))).1 iA) .nil)))
    (Rd.tuple (N11 _ (.head _)).1 (.cons (Rd.ints (N11 _ (.tail _ (.tail _ (.head _)))).1 i11) (.cons (Rd.ints (N11 _ (.tail _ (.head _))).1 .nil) .nil)))
    (by simp [kqdOk]) (by simp only [Around.deeper, cLine]; omega) ?_
  k_steps
  refine Stop.on ?_
  rename News _ _ _ _ => N12
  rw [val_sixes h0 h1] at N12
  refine eqD_yes (d := .list [.int n, .list [.int 77, .int 13]])
    (Rd.list (N12 _ (.tail _ (.tail _ (.head _)))).1 (.cons (Rd.int _ _) (.cons (Rd.list (N12 _ (.tail _ (.tail _ (.tail _ (.head _))))).1 (.cons (Rd.int _ _) (.cons (Rd.int _ _) .nil))) .nil)))
    (Rd.list (N12 _ (.head _)).1 (.cons (Rd.int _ _) (.cons (Rd.list (N12 _ (.tail _ (.head _))).1 (.cons (Rd.int _ _) (.cons (Rd.int _ _) .nil))) .nil)))
    (by simp [kqdOk]) (by simp only [Around.deeper, cLine]; omega) ?_
  k_steps
  refine Stop.on ?_
  rename News _ _ _ _ => N13
  rename Fr _ _ _ _ => F13
  rw [val_digits h0 h1] at N13
  refine eqD_yes (d := .list [.int n, .list [.int 77, .int 13]])
    (Rd.list (N13 _ (.tail _ (.tail _ (.head _)))).1 (.cons (Rd.int _ _) (.cons (Rd.list (N13 _ (.tail _ (.tail _ (.tail _ (.head _))))).1 (.cons (Rd.int _ _) (.cons (Rd.int _ _) .nil))) .nil)))
    (Rd.list (N13 _ (.head _)).1 (.cons (Rd.int _ _) (.cons (Rd.list (N13 _ (.tail _ (.head _))).1 (.cons (Rd.int _ _) (.cons (Rd.int _ _) .nil))) .nil)))
    (by simp [kqdOk]) (by simp only [Around.deeper, cLine]; omega) ?_
  refine hQ _ _ frs2 SU2 (fun p hp => (N13 p ?_).1) (hkeep _ F13.keep)
  simp only [List.mem_cons, List.mem_append]
  simp [hp]
end Mine
end
section
namespace Mine
def onceAt (ns : List Int) (k : Nat) : Bool := !(ns.take k).any (· == ns.getD k 0)
def onceL (ns : List Int) : List Int := ((List.range ns.length).filter (onceAt ns)).map (ns.getD · 0)
theorem onceAt_snoc {ns : List Int} {x : Int} {k : Nat} (hk : k < ns.length) : onceAt (ns ++ [x]) k = onceAt ns k := by
  unfold onceAt
  rw [List.take_append_of_le_length (by omega)]
  simp only [List.getD_eq_getElem?_getD]
  rw [List.getElem?_append_left hk]
theorem onceL_snoc (ns : List Int) (x : Int) : onceL (ns ++ [x]) = onceL ns ++ (if x ∈ ns then [] else [x]) := by
  unfold onceL
  rw [List.length_append, List.length_singleton, List.range_succ, List.filter_append, List.map_append]
  congr 1
  · rw [List.filter_congr (q := onceAt ns) (fun k hk => onceAt_snoc (List.mem_range.mp hk))]
    apply List.map_congr_left
    intro k hk
    have := List.mem_range.mp (List.mem_filter.mp hk).1
    simp only [List.getD_eq_getElem?_getD]
    rw [List.getElem?_append_left this]
  · have e : onceAt (ns ++ [x]) ns.length = !decide (x ∈ ns) := by
      unfold onceAt
      rw [List.take_left]
      have e2 : (ns ++ [x]).getD ns.length 0 = x := by simp
      rw [e2]
      congr 1
      rw [Bool.eq_iff_iff]
      simp [List.any_eq_true]
    by_cases h : x ∈ ns
    · simp [e, h]
    · simp [e, h]
theorem onceL_spec (ns : List Int) : (onceL ns).Nodup ∧ (∀ x, x ∈ onceL ns ↔ x ∈ ns) ∧ (onceL ns).length ≤ ns.length := by
  have key : ∀ (r : List Int), (onceL r.reverse).Nodup ∧ (∀ x, x ∈ onceL r.reverse ↔ x ∈ r.reverse) ∧ (onceL r.reverse).length ≤ r.reverse.length := by
    intro r
    induction r with
    | nil => simp [onceL]
    | cons a r ih =>
      obtain ⟨h1, h2, h3⟩ := ih
      rw [List.reverse_cons, onceL_snoc]
      by_cases h : a ∈ r.reverse
      · rw [if_pos h, List.append_nil]
        refine ⟨h1, fun x => ?_, by rw [List.length_append]; omega⟩
        rw [h2 x, List.mem_append, List.mem_singleton]
        constructor
        · exact .inl
        · rintro (q | q)
          · exact q
          · rw [q]; exact h
      · rw [if_neg h]
        refine ⟨?_, fun x => ?_, by rw [List.length_append, List.length_append]; simp only [List.length_singleton]; omega⟩
        · rw [List.nodup_append]
          refine ⟨h1, by simp, ?_⟩
          intro x hx y hy q
          rw [List.mem_singleton.mp hy] at q
          exact h ((h2 a).mp (q ▸ hx))
        · rw [List.mem_append, List.mem_append, h2 x]
  have := key ns.reverse
  rwa [List.reverse_reverse] at this
theorem sorted_once {ns os : List Int} (hp : os.Perm (onceL ns)) (hs : os.Pairwise (· ≤ ·)) : os.Pairwise (· < ·) ∧ (∀ x, x ∈ os ↔ x ∈ ns) ∧ os.length ≤ ns.length := by
  obtain ⟨h1, h2, h3⟩ := onceL_spec ns
  have hn : os.Nodup := hp.nodup_iff.mpr h1
  refine ⟨?_, fun x => by rw [hp.mem_iff, h2 x], by rw [hp.length_eq]; exact h3⟩
  have : os.Pairwise (fun a b => a ≤ b ∧ a ≠ b) := List.Pairwise.and hs hn
  exact this.imp fun ⟨a, b⟩ => by omega
end Mine
end
section
open PySem PySem.W PyProof.Rows PySem.Calls
set_option maxRecDepth 100000
namespace Mine
local macro_rules | `(tactic| walk_at "eval ListComp") => `(tactic| refine Stop.out ?_)
local macro_rules | `(tactic| walk_at "call builtin:len") => `(tactic| refine Stop.out ?_)
local macro_rules | `(tactic| walk_at "call type:range") => `(tactic| refine Stop.out ?_)
local macro_rules | `(tactic| walk_at "pyIter ref") => `(tactic| refine Stop.out ?_)
local macro_rules | `(tactic| walk_at "call builtin:sorted") => `(tactic| refine Stop.out ?_)
local macro_rules | `(tactic| walk_at "eval Name") => `(tactic| k_extra "name")
local macro_rules | `(tactic| walk_at "subscriptTail Name Name ref int") => `(tactic| k_extra "item")
local macro_rules | `(tactic| walk_at "subscriptTail Name Slice ref ref") => `(tactic| refine Stop.out ?_)
def onceP (ns : List Int) (v : Value) : Bool := match v with | .int k _ => onceAt ns k.toNat | _ => false
theorem paired_once {ns : List Int} : ∀ {idx : List Nat} {ws ys : List Value}, ws.length = idx.length → (∀ (j : Nat) (v : Value), ws[j]? = some v → ∃ k t, idx[j]? = some k ∧ v = Value.int (k : Nat) t) →
    Paired (fun v y => ∃ k : Nat, ∃ t u, v = Value.int k t ∧ y = Value.int (ns.getD k 0) u) (ws.filter (onceP ns)) ys → IntsAre ys ((idx.filter (onceAt ns)).map (ns.getD · 0))
  | [], ws, ys, hl, _, hp => by
    cases ws with
    | nil => cases hp; exact .nil
    | cons _ _ => simp at hl
  | i :: idx, ws, ys, hl, hs, hp => by
    cases ws with
    | nil => simp at hl
    | cons v ws =>
      obtain ⟨k, t, e1, rfl⟩ := hs 0 v (by simp)
      simp at e1; subst e1
      have hs' : ∀ (j : Nat) (v : Value), ws[j]? = some v → ∃ k t, idx[j]? = some k ∧ v = Value.int (k : Nat) t := fun j v hj => by simpa using hs (j + 1) v (by simpa using hj)
      have ep : onceP ns (Value.int (i : Int) t) = onceAt ns i := by simp [onceP]
      rw [List.filter_cons, ep] at hp
      rw [List.filter_cons]
      by_cases hc : onceAt ns i = true
      · rw [if_pos hc] at hp ⊢
        cases hp with
        | cons h hp =>
          obtain ⟨k, t', u, e1, rfl⟩ := h
          injection e1 with e1 _
          have : i = k := by omega
          subst this
          exact .cons _ _ (paired_once (by simpa using hl) hs' hp)
      · rw [if_neg hc] at hp ⊢
        exact paired_once (by simpa using hl) hs' hp
set_option maxHeartbeats 0 in
theorem once_call {prog : Program} {w : World} {mean : ExcName → Option Value} {mg mb : Str → Option Value} {A : Around} {s : Shared} {E : Value → Shared → Prop} {Q : Value → Shared → Prop} {l : Addr} {vs : List Value} {ns : List Int}
    (W : Wd w mean mg mb s.heap) (R : Rm 0 A) (hl : s.heap.IsList l vs.toArray) (hv : IntsAre vs ns) (h64 : ns.length < 64)
    (hQ : ∀ D h' tk' os, (∀ b o, s.heap.get? b = some o → h'.get? b = some o) → NewInts s.heap h' D os → os.Pairwise (· < ·) → (∀ x, x ∈ os ↔ x ∈ ns) → os.length ≤ ns.length → Q (.ref D) { s with heap := h', toks := tk' }) :
    wpAny (model prog w) A (call (.ref 101) [.ref l]) Q E s := by
  obtain ⟨X, T⟩ := W
  obtain ⟨hd', dp, fr, gd, un⟩ := A
  obtain ⟨r1, r2, r3⟩ := R
  dsimp only at r1 r2 r3
  subst r1
  w_on
  have fl2 : (fun (_ : OpenLaw) (_ : Params → Frag) => True) PySem.Challenge.rw_ny0066_01 Mine.hd.heap_39 := by
    k_fill
    trivial
  clear fl2
  refine' enterC (K := hd.heap_39 w.params) (binds := [(Str.ofString "numbers", .ref l)]) X T.nolimit ?k6 ?k7 ?k8 ?k9 ?kB ?kD ?_ ?c2 ?c3 ?c4
  case k6 => k_is
  case k7 => k_is
  case k8 => simp only [recursionLimit]; omega
  case k9 => exact BindsTo.of_eq rfl
  case kB => exact rfl
  case kD => decide +kernel
  case c2 => exact rfl
  case c3 => exact rfl
  case c4 => exact rfl
  intro L h₁ tk cells hL F N Y
  obtain ⟨o1, hE, d1⟩ := CellsAre.one Y
  subst hE
  clear Y
  have d2 : o1.data = .cell (some (.ref l)) := d1
  clear d1
  have hx1 := (N _ (.head _)).1
  k_with_none
  k_steps
  refine Stop.on ?_
  have hvl := IntsAre.length hv
  refine wpAny_ListComp_free (cl := [(Str.ofString "numbers", L + 1)]) (onceP ns) (fun v y => ∃ k : Nat, ∃ t u, v = Value.int k t ∧ y = Value.int (ns.getD k 0) u) (by with_unfolding_all rfl) (by decide) rfl (by decide) rfl ?_
  k_steps
  refine Stop.on ?_
  dsimp only [List.cons_append, List.nil_append]
  have hl1 := F.lst hl
  refine len_at (k := (ns.length : Int)) hl1 (by simp [hvl]) (by omega) ?_
  intro t1 tk1
  k_steps
  refine Stop.on ?_
  dsimp only [List.cons_append, List.nil_append]
  refine call_range_1 ?_
  k_steps
  refine Stop.on ?_
  refine wpAny_pyIter_range (IsRange.new _ 0 (ns.length : Int) 1 _ _ _) (by
    have e : Builtin.Range.rangeSize 0 (ns.length : Int) 1 = (ns.length : Int) := by rw [rangeSize_one]; split <;> omega
    unfold Builtin.Range.small
    rw [e]
    simp [Builtin.Range.rangeFitsLong]
    omega) ?_
  have ersz : Builtin.Range.rangeSize 0 (ns.length : Int) 1 = (ns.length : Int) := by rw [rangeSize_one]; split <;> omega
  rw [ersz]
  generalize hI : Heap.push _ _ = hR
  have kR : ∀ b o, h₁.get? b = some o → hR.get? b = some o := fun b o e => by rw [← hI]; exact Heap.get?_push_of_some _ e
  dsimp only
  have hcellAt : ∀ {h : Heap}, (∀ b o, b ∉ [hR.objs.size] → (hR.push { cls := .type "range_iterator", data := .fields #[rawInt 0, rawInt (ns.length : Int), rawInt 1] }).get? b = some o → h.get? b = some o) → h.IsCell (L + 1) (some (.ref l)) ∧ h.IsList l vs.toArray ∧ (∀ b o, s.heap.get? b = some o → h.get? b = some o) := by
    intro h hk
    have up : ∀ b o, h₁.get? b = some o → h.get? b = some o := fun b o e => hk b o (fun q => by
      have := Heap.lt_size (kR _ _ e)
      rw [List.mem_singleton.mp q] at this
      exact Nat.lt_irrefl _ this) (Heap.get?_push_of_some _ (kR _ _ e))
    refine ⟨⟨_, up _ _ hx1, d2⟩, ?_, fun b o e => up _ _ (F.keep _ _ e)⟩
    obtain ⟨o', e', r'⟩ := hl1
    exact ⟨o', up _ _ e', r'⟩
  refine ⟨_, _, _, _, _, _, rfl, (Walks.range rfl hR.objs.size 0 1 ns.length).bound, by simp [sizeLine]; omega, ?st, ?fp, ⟨?tests, ?elt⟩, ?fin⟩
  case st =>
    have := Heap.get?_push_size (o := { cls := .type "range_iterator", data := .fields #[rawInt 0, rawInt (ns.length : Int), rawInt 1] }) hR rfl
    simp only [IsRangeIter]
    simpa using this
  case fp =>
    intro b hb
    rw [List.mem_singleton.mp hb, Heap.size_push]
    exact Nat.lt_succ_self _
  case tests =>
    intro C i v s₃ m₃ E' hC hP hn hm hk htk
    obtain ⟨hi, u, rfl⟩ := hP
    obtain ⟨hcell, hl3, _⟩ := hcellAt hk
    refine wpAny_tests_one ?_
    k_with "name" => k_dflt (first | refine wpAny_Name (wpAny_loadName_local (by rfl) (by rfl) hn hm ?_) | refine wpAny_Name (wpAny_loadName_cell (by rfl) (by rfl) (by rfl) hcell ?_))
    obtain ⟨ti, hti⟩ := ints_at hv (i := i) (x := ns.getD i 0) (by rw [List.getD_eq_getElem?_getD, List.getElem?_eq_getElem (by omega)]; rfl)
    have hget : vs.toArray[(0 + (i : Int) * 1).toNat]? = some (.int (ns.getD i 0) ti) := by
      have : (0 + (i : Int) * 1).toNat = i := by omega
      rw [this, List.getElem?_toArray, hti]
    k_with "item" => k_dflt (refine item_list hl3 (by omega) (by omega) hget ?_)
    k_steps
    refine Stop.on ?_
    refine slice_listK hl3 .none (.int _ _) ?_ (hsz := by simp [sizeLine]; omega)
    refine notin_list_ints (vs := (slicePick vs.toArray none (some (0 + (i : Int) * 1)) none).toList) ⟨_, by
      dsimp only
      rw [← Heap.size_push]
      exact Heap.get?_push_size _ rfl, rfl, _, rfl⟩ (kmk_upto hv (by omega)) ?_
    refine wpAny_truthy_bool ?_
    have ei : (0 + (i : Int) * 1).toNat = i := by omega
    refine ⟨?_, _, _, rfl, fun b o e => Heap.get?_push_of_some _ (Heap.get?_push_of_some _ e)⟩
    simp only [onceP, onceAt, ei]
  case elt =>
    intro C i v s₃ m₃ E' hC hP _ hn hm hk htk
    obtain ⟨hi, u, rfl⟩ := hP
    obtain ⟨hcell, hl3, _⟩ := hcellAt hk
    k_with "name" => k_dflt (first | refine wpAny_Name (wpAny_loadName_local (by rfl) (by rfl) hn hm ?_) | refine wpAny_Name (wpAny_loadName_cell (by rfl) (by rfl) (by rfl) hcell ?_))
    obtain ⟨ti, hti⟩ := ints_at hv (i := i) (x := ns.getD i 0) (by rw [List.getD_eq_getElem?_getD, List.getElem?_eq_getElem (by omega)]; rfl)
    have hget : vs.toArray[(0 + (i : Int) * 1).toNat]? = some (.int (ns.getD i 0) ti) := by
      have : (0 + (i : Int) * 1).toNat = i := by omega
      rw [this, List.getElem?_toArray, hti]
    k_with "item" => k_dflt (refine item_list hl3 (by omega) (by omega) hget ?_)
    refine wpAny_mono (Q := fun y s₄ => Stop ((∃ k : Nat, ∃ t u', Value.int (0 + (i : Int) * 1) u = Value.int (k : Int) t ∧ y = Value.int (ns.getD k 0) u') ∧ Keeps s₃ s₄)) ?_ (fun _ _ h => h) (fun _ _ h => h)
    k_steps
    exact Stop.on ⟨⟨i, _, _, by congr 1; omega, rfl⟩, _, _, rfl, fun _ _ e => e⟩
  case fin =>
    intro D h' tk' ys ws hD hlD hpl hlen hP hF hk
    obtain ⟨_, _, kb⟩ := hcellAt hk
    have hI := paired_once (ns := ns) (idx := List.range ns.length) (ws := ws) (ys := ys.toList) (by simp [hlen]) (fun j v hj => by
      obtain ⟨h1, t, e⟩ := hP j v hj
      exact ⟨j, t, by rw [List.getElem?_range h1], by rw [e]; congr 1; omega⟩) hF
    change IntsAre ys.toList (onceL ns) at hI
    obtain ⟨c9, hpl⟩ := hpl
    have hle := (onceL_spec ns)
    k_steps
    refine Stop.on ?_
    refine sorted_ints (vs := ys.toList) hlD hI (by rw [IntsAre.length hI]; omega) ?_
    intro out ns' a1 a2 a3
    obtain ⟨o1, o2, o3⟩ := sorted_once a2 a3
    obtain ⟨e9, he9⟩ := sortedAll_at h' ys.toList out
    k_steps
    refine hQ _ _ _ ns' (fun b o e => sortedAll_old (kb b o e)) ⟨?_, out, e9, he9, a1⟩ o1 o2 o3
    cases q : s.heap.get? (h'.objs.size + 1) with
    | none => rfl
    | some o' => exact absurd (Heap.lt_size (kb _ _ q)) (Nat.not_lt.mpr (Nat.le_succ _))
end Mine
end
section
open PySem PySem.W PyProof.Rows PySem.Calls PySem.Spec
set_option maxRecDepth 100000
namespace Mine
noncomputable def lexB (f : Int → Int → Bool) : List Int → List Int → Bool
  | x :: xs, y :: ys => if x = y then lexB f xs ys else f x y
  | _, _ => false
open AutoSeq1 (wpAny_loadPart')
open MeetsSeq MeetsSeq3
theorem lt_loop (l b : Addr) (items items2 : Array Value) (n n2 : Nat) (dd dd2 : Option Addr) (sl sl2 : Array (Option Value)) {xs ys : List Int} (i1 : IntsAre items.toList xs) (i2 : IntsAre items2.toList ys) (hsz : items.size = items2.size) (k : Nat) :
    ∀ i : Nat, items.size - i = k → Meets (Builtin.«list.__eq__.loop» ⟨[.ref l, .ref b, rawInt i, rawInt 0], []⟩)
      (fun _ R s => s.heap.get? l = some { cls := .type "list", dict := dd, data := .seq items n, slots := sl } ∧ s.heap.get? b = some { cls := .type "list", dict := dd2, data := .seq items2 n2, slots := sl2 } ∧
        R (.ok (.ret (.bool (lexB (fun a b => decide (a < b)) (xs.drop i) (ys.drop i))))) s) := by
  have l1 : items.size = xs.length := by rw [← Array.length_toList, i1.length]
  have l2 : items2.size = ys.length := by rw [← Array.length_toList, i2.length]
  induction k with
  | zero =>
    intro i hk prog w A R s h
    obtain ⟨hp, g, d, tk, os⟩ := s; obtain ⟨hl, hb, h⟩ := h
    wp_walk using wpAny_loadPart' hl, wpAny_loadPart' hb
    have hi1 : items[((i : Nat) : Int).toNat]? = none := by simp; omega
    have hi2 : items2[((i : Nat) : Int).toNat]? = none := by simp; omega
    have hd : xs.drop i = [] := by rw [List.drop_eq_nil_iff]; omega
    rw [hd] at h
    rw [hi1, hi2]
    wp_walk using wpAny_loadPart' hl, wpAny_loadPart' hb
    show R (.ok (.ret (.bool (decide (items.size < items2.size))))) _
    rw [hsz]
    simpa [lexB] using h
  | succ k ih =>
    intro i hk prog w A R s h
    obtain ⟨hp, g, d, tk, os⟩ := s; obtain ⟨hl, hb, h⟩ := h
    wp_walk using wpAny_loadPart' hl, wpAny_loadPart' hb
    have hlt : i < xs.length := by omega
    have hlt2 : i < ys.length := by omega
    obtain ⟨t1, e1⟩ := i1.get i xs[i] (by simp [hlt])
    obtain ⟨t2, e2⟩ := i2.get i ys[i] (by simp [hlt2])
    have hi1 : items[((i : Nat) : Int).toNat]? = some (.int xs[i] t1) := by rw [Int.toNat_natCast, ← Array.getElem?_toList]; exact e1
    have hi2 : items2[((i : Nat) : Int).toNat]? = some (.int ys[i] t2) := by rw [Int.toNat_natCast, ← Array.getElem?_toList]; exact e2
    have hc : ((i : Int) + 1) = ((i + 1 : Nat) : Int) := by push_cast; rfl
    rw [List.drop_eq_getElem_cons hlt, List.drop_eq_getElem_cons hlt2, lexB] at h
    rw [hi1, hi2]
    refine wpAny_bind (EqGives.int _ _ _ _ prog w _ _ _ _ ?_)
    by_cases hb' : xs[i] = ys[i]
    · rw [if_pos hb'] at h
      rw [beq_iff_eq.mpr hb']
      wp_walk
      rw [hc]
      exact ⟨plainId_quiet plain_eq_loop _, codeAny_builtin entry_eq_loop (by
        rw [Around.under_plainId plain_eq_loop _]
        exact ih (i + 1) (by omega) prog w A R _ ⟨hl, hb, by simpa using h⟩)⟩
    · rw [if_neg hb'] at h
      rw [show (xs[i] == ys[i]) = false from beq_eq_false_iff_ne.mpr hb']
      wp_walk using wpAny_loadPart' hl, wpAny_loadPart' hb
      rw [hi1, hi2]
      refine wpAny_bind (wpAny_lt_int ?_)
      wp_walk
      exact h
theorem list_lt (l b : Addr) (items items2 : Array Value) (n n2 : Nat) (dd dd2 : Option Addr) (sl sl2 : Array (Option Value)) {xs ys : List Int} (i1 : IntsAre items.toList xs) (i2 : IntsAre items2.toList ys) (hsz : items.size = items2.size) :
    Meets (Builtin.«list.__lt__» ⟨[.ref l, .ref b], []⟩)
      (fun _ R s => s.heap.get? l = some { cls := .type "list", dict := dd, data := .seq items n, slots := sl } ∧ s.heap.get? b = some { cls := .type "list", dict := dd2, data := .seq items2 n2, slots := sl2 } ∧
        R (.ok (.ret (.bool (lexB (fun a b => decide (a < b)) xs ys)))) s) := by
  intro prog w A R s h
  obtain ⟨hp, g, d, tk, os⟩ := s; obtain ⟨hl, hb, h⟩ := h
  have f3 := AutoSeq1.sub_list_list
  wp_walk using wpAny_loadPart' hl, wpAny_loadPart' hb
  exact ⟨plainId_quiet plain_eq_loop _, codeAny_builtin entry_eq_loop (by
    rw [Around.under_plainId plain_eq_loop _]
    exact lt_loop l b items items2 n n2 dd dd2 sl sl2 i1 i2 hsz _ 0 rfl prog w A R _ ⟨hl, hb, by simpa using h⟩)⟩
theorem gt_loop (l b : Addr) (items items2 : Array Value) (n n2 : Nat) (dd dd2 : Option Addr) (sl sl2 : Array (Option Value)) {xs ys : List Int} (i1 : IntsAre items.toList xs) (i2 : IntsAre items2.toList ys) (hsz : items.size = items2.size) (k : Nat) :
    ∀ i : Nat, items.size - i = k → Meets (Builtin.«list.__eq__.loop» ⟨[.ref l, .ref b, rawInt i, rawInt 4], []⟩)
      (fun _ R s => s.heap.get? l = some { cls := .type "list", dict := dd, data := .seq items n, slots := sl } ∧ s.heap.get? b = some { cls := .type "list", dict := dd2, data := .seq items2 n2, slots := sl2 } ∧
        R (.ok (.ret (.bool (lexB (fun a b => decide (b < a)) (xs.drop i) (ys.drop i))))) s) := by
  have l1 : items.size = xs.length := by rw [← Array.length_toList, i1.length]
  have l2 : items2.size = ys.length := by rw [← Array.length_toList, i2.length]
  induction k with
  | zero =>
    intro i hk prog w A R s h
    obtain ⟨hp, g, d, tk, os⟩ := s; obtain ⟨hl, hb, h⟩ := h
    wp_walk using wpAny_loadPart' hl, wpAny_loadPart' hb
    have hi1 : items[((i : Nat) : Int).toNat]? = none := by simp; omega
    have hi2 : items2[((i : Nat) : Int).toNat]? = none := by simp; omega
    have hd : xs.drop i = [] := by rw [List.drop_eq_nil_iff]; omega
    rw [hd] at h
    rw [hi1, hi2]
    wp_walk using wpAny_loadPart' hl, wpAny_loadPart' hb
    show R (.ok (.ret (.bool (decide (items.size > items2.size))))) _
    rw [hsz]
    simpa [lexB] using h
  | succ k ih =>
    intro i hk prog w A R s h
    obtain ⟨hp, g, d, tk, os⟩ := s; obtain ⟨hl, hb, h⟩ := h
    wp_walk using wpAny_loadPart' hl, wpAny_loadPart' hb
    have hlt : i < xs.length := by omega
    have hlt2 : i < ys.length := by omega
    obtain ⟨t1, e1⟩ := i1.get i xs[i] (by simp [hlt])
    obtain ⟨t2, e2⟩ := i2.get i ys[i] (by simp [hlt2])
    have hi1 : items[((i : Nat) : Int).toNat]? = some (.int xs[i] t1) := by rw [Int.toNat_natCast, ← Array.getElem?_toList]; exact e1
    have hi2 : items2[((i : Nat) : Int).toNat]? = some (.int ys[i] t2) := by rw [Int.toNat_natCast, ← Array.getElem?_toList]; exact e2
    have hc : ((i : Int) + 1) = ((i + 1 : Nat) : Int) := by push_cast; rfl
    rw [List.drop_eq_getElem_cons hlt, List.drop_eq_getElem_cons hlt2, lexB] at h
    rw [hi1, hi2]
    refine wpAny_bind (EqGives.int _ _ _ _ prog w _ _ _ _ ?_)
    by_cases hb' : xs[i] = ys[i]
    · rw [if_pos hb'] at h
      rw [beq_iff_eq.mpr hb']
      wp_walk
      rw [hc]
      exact ⟨plainId_quiet plain_eq_loop _, codeAny_builtin entry_eq_loop (by
        rw [Around.under_plainId plain_eq_loop _]
        exact ih (i + 1) (by omega) prog w A R _ ⟨hl, hb, by simpa using h⟩)⟩
    · rw [if_neg hb'] at h
      rw [show (xs[i] == ys[i]) = false from beq_eq_false_iff_ne.mpr hb']
      wp_walk using wpAny_loadPart' hl, wpAny_loadPart' hb
      rw [hi1, hi2]
      refine wpAny_bind (gt_int ?_)
      wp_walk
      exact h
theorem list_gt (l b : Addr) (items items2 : Array Value) (n n2 : Nat) (dd dd2 : Option Addr) (sl sl2 : Array (Option Value)) {xs ys : List Int} (i1 : IntsAre items.toList xs) (i2 : IntsAre items2.toList ys) (hsz : items.size = items2.size) :
    Meets (Builtin.«list.__gt__» ⟨[.ref l, .ref b], []⟩)
      (fun _ R s => s.heap.get? l = some { cls := .type "list", dict := dd, data := .seq items n, slots := sl } ∧ s.heap.get? b = some { cls := .type "list", dict := dd2, data := .seq items2 n2, slots := sl2 } ∧
        R (.ok (.ret (.bool (lexB (fun a b => decide (b < a)) xs ys)))) s) := by
  intro prog w A R s h
  obtain ⟨hp, g, d, tk, os⟩ := s; obtain ⟨hl, hb, h⟩ := h
  have f3 := AutoSeq1.sub_list_list
  wp_walk using wpAny_loadPart' hl, wpAny_loadPart' hb
  exact ⟨plainId_quiet plain_eq_loop _, codeAny_builtin entry_eq_loop (by
    rw [Around.under_plainId plain_eq_loop _]
    exact gt_loop l b items items2 n n2 dd dd2 sl sl2 i1 i2 hsz _ 0 rfl prog w A R _ ⟨hl, hb, by simpa using h⟩)⟩
section
variable {prog : Program} {w : World} {A : Around} {E : Value → Shared → Prop} {s : Shared} {l b : Addr} {items items2 : Array Value} {xs ys : List Int} {Q : Value → Shared → Prop}
theorem lt_lists (hl : s.heap.IsList l items) (hb : s.heap.IsList b items2) (i1 : IntsAre items.toList xs) (i2 : IntsAre items2.toList ys) (hsz : items.size = items2.size) (hu : A.units < cLine)
    (h : Q (.bool (lexB (fun a b => decide (a < b)) xs ys)) s) : wpAny (model prog w) A (compareOp .Lt (.ref l) (.ref b)) Q E s := by
  obtain ⟨⟨cls, dd, data, sl⟩, ho, hc, n, hd⟩ := id hl
  obtain ⟨⟨cls2, dd2, data2, sl2⟩, ho2, hc2, n2, hd2⟩ := id hb
  simp only at hc hd hc2 hd2
  subst hc hd hc2 hd2
  exact show wpAny _ _ (richCompare .Lt _ _) _ _ _ from richCompare_meets_room (op := .Lt) ⟨_, ho, rfl⟩ ⟨_, ho2, rfl⟩ F.slot_list_lt F.entry_list_lt (F.args_list_lt_2 _ _) (list_lt l b items items2 n n2 dd dd2 sl sl2 i1 i2 hsz)
    ⟨ho, ho2, show Value.bool _ ≠ Value.notImplemented ∧ Q (.bool _) s from ⟨(fun x => nomatch x), h⟩⟩ hu
theorem gt_lists (hl : s.heap.IsList l items) (hb : s.heap.IsList b items2) (i1 : IntsAre items.toList xs) (i2 : IntsAre items2.toList ys) (hsz : items.size = items2.size) (hu : A.units < cLine)
    (h : Q (.bool (lexB (fun a b => decide (b < a)) xs ys)) s) : wpAny (model prog w) A (compareOp .Gt (.ref l) (.ref b)) Q E s := by
  obtain ⟨⟨cls, dd, data, sl⟩, ho, hc, n, hd⟩ := id hl
  obtain ⟨⟨cls2, dd2, data2, sl2⟩, ho2, hc2, n2, hd2⟩ := id hb
  simp only at hc hd hc2 hd2
  subst hc hd hc2 hd2
  exact show wpAny _ _ (richCompare .Gt _ _) _ _ _ from richCompare_meets_room (op := .Gt) ⟨_, ho, rfl⟩ ⟨_, ho2, rfl⟩ F.slot_list_gt F.entry_list_gt (F.args_list_gt_2 _ _) (list_gt l b items items2 n n2 dd dd2 sl sl2 i1 i2 hsz)
    ⟨ho, ho2, show Value.bool _ ≠ Value.notImplemented ∧ Q (.bool _) s from ⟨(fun x => nomatch x), h⟩⟩ hu
end
end Mine
end
section
open PySem PySem.W PyProof.Rows
namespace Mine
theorem lex_lt {m n : Int} (_ : 0 ≤ m) (_ : 0 ≤ n) : lexB (fun a b => decide (a < b)) (sixesOf m) (sixesOf n) = decide (m < n) := by
  simp only [sixesOf, lexB]
  repeat' split
  all_goals rw [Bool.eq_iff_iff]
  all_goals simp only [decide_eq_true_eq, Bool.false_eq_true, false_iff]
  all_goals omega
theorem lex_gt {m n : Int} (_ : 0 ≤ m) (_ : 0 ≤ n) : lexB (fun a b => decide (b < a)) (sixesOf m) (sixesOf n) = decide (n < m) := by
  simp only [sixesOf, lexB]
  repeat' split
  all_goals rw [Bool.eq_iff_iff]
  all_goals simp only [decide_eq_true_eq, Bool.false_eq_true, false_iff]
  all_goals omega
theorem sixes_inj {m n : Int} (e : sixesOf m = sixesOf n) : m = n := by
  simp only [sixesOf, List.cons.injEq, and_true] at e
  omega
/-- what sorted_list_difference reckons, of what is left of the two -/
noncomputable def sld : List (Int × Addr) → List (Int × Addr) → List (Int × Addr) × List (Int × Addr)
  | [], as => ([], as)
  | e :: es, [] => (e :: es, [])
  | e :: es, a :: as => if e.1 < a.1 then (e :: (sld es (a :: as)).1, (sld es (a :: as)).2) else if a.1 < e.1 then ((sld (e :: es) as).1, a :: (sld (e :: es) as).2) else sld es as
termination_by es as => es.length + as.length
theorem sld_nil (es : List (Int × Addr)) : sld es [] = (es, []) := by cases es <;> simp [sld]
theorem sld_fst : ∀ (n : Nat) (es as : List (Int × Addr)), es.length + as.length ≤ n → (es.map (·.1)).Pairwise (· < ·) → (as.map (·.1)).Pairwise (· < ·) →
    (sld es as).1 = es.filter (fun e => !(as.map (·.1)).any (· == e.1)) ∧ (sld es as).2 = as.filter (fun a => !(es.map (·.1)).any (· == a.1)) := by
  intro n
  induction n with
  | zero =>
    intro es as h _ _
    have h1 : es = [] := List.eq_nil_of_length_eq_zero (by omega)
    have h2 : as = [] := List.eq_nil_of_length_eq_zero (by omega)
    subst h1 h2
    simp [sld]
  | succ n ih =>
    intro es as h he ha
    cases es with
    | nil => simp [sld]; exact (List.filter_eq_self.mpr (fun _ _ => rfl)).symm
    | cons e es =>
      cases as with
      | nil => simp [sld]; exact (List.filter_eq_self.mpr (fun _ _ => rfl)).symm
      | cons a as =>
        simp only [List.map_cons, List.pairwise_cons] at he ha
        rw [sld]
        simp only [List.length_cons] at h
        by_cases h1 : e.1 < a.1
        · rw [if_pos h1]
          have := ih es (a :: as) (by simp only [List.length_cons]; omega) he.2 (by simp only [List.map_cons, List.pairwise_cons]; exact ha)
          rw [this.1, this.2]
          have k1 : ((List.map (·.1) (a :: as)).any (· == e.1)) = false := by
            rw [Bool.eq_false_iff]; intro q
            simp only [List.any_eq_true, List.map_cons, List.mem_cons] at q
            obtain ⟨x, hx, e2⟩ := q
            have e3 := beq_iff_eq.mp e2
            rcases hx with rfl | hx
            · omega
            · have := ha.1 x hx; omega
          refine ⟨?_, ?_⟩
          · (try dsimp only)
            rw [List.filter_cons_of_pos (by rw [k1]; rfl)]
          · (try dsimp only)
            apply List.filter_congr
            intro x hx
            have : (e.1 == x.1) = false := by
              rw [beq_eq_false_iff_ne]
              rcases List.mem_cons.mp hx with rfl | hx
              · omega
              · have := ha.1 _ (List.mem_map_of_mem hx); omega
            rw [List.map_cons, List.any_cons, this, Bool.false_or]
        · rw [if_neg h1]
          by_cases h2 : a.1 < e.1
          · rw [if_pos h2]
            have := ih (e :: es) as (by simp only [List.length_cons]; omega) (by simp only [List.map_cons, List.pairwise_cons]; exact he) ha.2
            rw [this.1, this.2]
            have k1 : ((List.map (·.1) (e :: es)).any (· == a.1)) = false := by
              rw [Bool.eq_false_iff]; intro q
              simp only [List.any_eq_true, List.map_cons, List.mem_cons] at q
              obtain ⟨x, hx, e2⟩ := q
              have e3 := beq_iff_eq.mp e2
              rcases hx with rfl | hx
              · omega
              · have := he.1 x hx; omega
            refine ⟨?_, ?_⟩
            · (try dsimp only)
              apply List.filter_congr
              intro x hx
              have : (a.1 == x.1) = false := by
                rw [beq_eq_false_iff_ne]
                rcases List.mem_cons.mp hx with rfl | hx
                · omega
                · have := he.1 _ (List.mem_map_of_mem hx); omega
              rw [List.map_cons, List.any_cons, this, Bool.false_or]
            · (try dsimp only)
              rw [List.filter_cons_of_pos (by rw [k1]; rfl)]
          · rw [if_neg h2]
            have h3 : e.1 = a.1 := by omega
            have := ih es as (by omega) he.2 ha.2
            rw [this.1, this.2]
            have c1 : ∀ x ∈ es, (a.1 == x.1) = false := fun x hx => by
              rw [beq_eq_false_iff_ne]; have := he.1 _ (List.mem_map_of_mem hx); omega
            have c2 : ∀ x ∈ as, (e.1 == x.1) = false := fun x hx => by
              rw [beq_eq_false_iff_ne]; have := ha.1 _ (List.mem_map_of_mem hx); omega
            refine ⟨?_, ?_⟩
            · rw [List.filter_cons_of_neg (by simp [h3])]
              apply List.filter_congr
              intro x hx
              rw [List.map_cons, List.any_cons, c1 x hx, Bool.false_or]
            · rw [List.filter_cons_of_neg (by simp [h3])]
              apply List.filter_congr
              intro x hx
              rw [List.map_cons, List.any_cons, c2 x hx, Bool.false_or]
end Mine
end
section
local macro_rules | `(tactic| walk_at "no such key 0") => `(tactic| skip)
local macro_rules | `(tactic| walk_at "no such key 1") => `(tactic| skip)
local macro_rules | `(tactic| walk_at "no such key 2") => `(tactic| skip)
local macro_rules | `(tactic| walk_at "no such key 3") => `(tactic| skip)
local macro_rules | `(tactic| walk_at "no such key 4") => `(tactic| skip)
local macro_rules | `(tactic| walk_at "no such key 5") => `(tactic| skip)
local macro_rules | `(tactic| walk_at "no such key 6") => `(tactic| skip)
local macro_rules | `(tactic| walk_at "no such key 7") => `(tactic| skip)
local macro_rules | `(tactic| walk_at "no such key 8") => `(tactic| skip)
open PySem PySem.W PyProof.Rows PySem.Calls PySem.Spec
open PyProof.Rows.TI (Frs SameUp)
set_option maxRecDepth 100000
namespace Mine
def refs (ps : List (Int × Addr)) : List Value := ps.map fun p => .ref p.2
/-- each pair's place holds the sixes of its number -/
def RowsAt (h : Heap) (ps : List (Int × Addr)) : Prop := ∀ p ∈ ps, 0 ≤ p.1 ∧ ∃ vs, h.IsList p.2 vs ∧ IntsAre vs.toList (sixesOf p.1)
def StepB (h₀ : Heap) (L : Addr) (s : Shared) (J : Nat → (Str → Option Value) → List (Addr × Obj) → Prop) (Q : Flow → Shared → Prop) (n : Nat) (f : Flow) (s₃ : Shared) : Prop :=
  match f with
  | .next => ∃ h' tk m₂ news₂ n', s₃ = { s with heap := h', toks := tk } ∧ Fr h₀ L h' m₂ ∧ News h₀ L h' news₂ ∧ n' < n ∧ J n' m₂ news₂
  | .brk => Q .next s₃
  | _ => False
section
variable {prog : Program} {w : World} {A : Around} {E : Value → Shared → Prop} {Q : Flow → Shared → Prop} {s : Shared} {env : Env} {h₀ : Heap} {L : Addr}
theorem StepB.intro {h' : Heap} {J : Nat → (Str → Option Value) → List (Addr × Obj) → Prop} {n n' tk : Nat} {m₂ : Str → Option Value} {news₂ : List (Addr × Obj)}
    (F : Fr h₀ L h' m₂) (N : News h₀ L h' news₂) (hn : n' < n) (hJ : J n' m₂ news₂) : StepB h₀ L s J Q n .next { s with heap := h', toks := tk } :=
  ⟨h', tk, m₂, news₂, n', rfl, F, N, hn, hJ⟩
theorem While_brk {test : Expr} {body : List Stmt} {pos : Pos} {m : Str → Option Value} {news : List (Addr × Obj)} (J : Nat → (Str → Option Value) → List (Addr × Obj) → Prop) {n₀ : Nat}
    (F : Fr h₀ L s.heap m) (N : News h₀ L s.heap news) (hJ : J n₀ m news)
    (turn : ∀ n m₁ news₁ h₁ tk₁, Fr h₀ L h₁ m₁ → News h₀ L h₁ news₁ → J n m₁ news₁ →
      wpAny (model prog w) A (isTrue test env (eval test env)) (fun b s₂ =>
        if b = true then wpAny (model prog w) A (execs body env) (StepB h₀ L s J Q n) (fun _ _ => False) s₂ else Q .next s₂) (fun _ _ => False) { s with heap := h₁, toks := tk₁ }) :
    wpAny (model prog w) A (exec (.While test body [] pos) env) Q (fun _ _ => False) s := by
  refine wpAny_While (codeAny_whileLoop (fun n s' => ∃ h₁ tk₁ m₁ news₁, s' = { s with heap := h₁, toks := tk₁ } ∧ Fr h₀ L h₁ m₁ ∧ News h₀ L h₁ news₁ ∧ J n m₁ news₁) ?_ n₀ ⟨s.heap, s.toks, m, news, rfl, F, N, hJ⟩)
  rintro n s' ⟨h₁, tk₁, m₁, news₁, rfl, F₁, N₁, J₁⟩
  refine wpAny_mono (turn n m₁ news₁ h₁ tk₁ F₁ N₁ J₁) (fun b s₂ h₂ => ?_) (fun _ _ x => x.elim)
  cases b with
  | false =>
    simp only [Bool.false_eq_true, if_false] at h₂ ⊢
    exact wpAny_execs_nil h₂
  | true =>
    simp only [if_true] at h₂ ⊢
    refine wpAny_mono h₂ (fun f s₃ h₃ => ?_) (fun _ _ x => x.elim)
    cases f with
    | next =>
      obtain ⟨h', tk, m₂, news₂, n', rfl, F₂, N₂, hn, J₂⟩ := h₃
      exact ⟨n', hn, h', tk, m₂, news₂, rfl, F₂, N₂, J₂⟩
    | brk => exact h₃
    | cont => exact h₃.elim
    | ret v => exact h₃.elim
/-- a loop whose test is false at once, or raises at once -/
theorem While_not {test : Expr} {body : List Stmt} {pos : Pos} (hE : PassesOwn (model prog w) A env E)
    (h : wpAny (model prog w) A (isTrue test env (eval test env)) (fun b s₂ => b = false ∧ Q .next s₂) E s) :
    wpAny (model prog w) A (exec (.While test body [] pos) env) Q E s := by
  refine wpAny_While (codeAny_whileLoop (fun _ s' => s' = s) ?_ 0 rfl)
  rintro n s' rfl
  refine wpAny_mono h (fun b s₂ h₂ => ?_) hE
  obtain ⟨rfl, h₂⟩ := h₂
  simp only [Bool.false_eq_true, if_false]
  exact wpAny_execs_nil h₂
end
section
variable {prog : Program} {w : World} {A : Around} {E : Value → Shared → Prop} {s : Shared} {env : Env} {h₀ : Heap} {L D b : Addr} {m : Str → Option Value} {news : List (Addr × Obj)}
theorem try_split {body : List Stmt} {hd₀ : ExceptHandler} {hs : List ExceptHandler} {pos : Pos} {Q : Flow → Shared → Prop}
    (h : ∀ H : Value → Shared → Prop, PassesOwn (model prog w) A env H → (∀ e s₁, wpAny (model prog w) A (noteFrame e env) (fun _ s₂ => wpAny (model prog w) A (setFlight e none) (fun _ s₃ => wpAny (model prog w) A (handleBy e env (hd₀ :: hs)) Q E s₃) E s₂) E s₁ → H e s₁) →
      wpAny (model prog w) A (execs body env) (fun f s₁ => match f with | .next => wpAny (model prog w) A (execs [] env) Q E s₁ | f => Q f s₁) H s) :
    wpAny (model prog w) A (exec (.Try body (hd₀ :: hs) [] [] pos) env) Q E s :=
  wpAny_Try_except (h _ (by passes_own) fun _ _ x => x)
theorem extend_any {its its2 : Array Value} {n n2 : Nat} {G : Nat → List (Addr × Obj)} {Q : Value → Shared → Prop} (F : Fr h₀ L s.heap m) (N : News h₀ L s.heap news) (hb : (b, listOf its2 n2) ∈ news)
    (U : ∀ k, Upd D (listOf its n) (listOf (its.toList ++ its2.toList).toArray k) news (G k)) (hz : its.size + its2.size ≤ 1000)
    (h : ∀ h' k, Fr h₀ L h' m → News h₀ L h' (G k) → Q .none { s with heap := h' }) : wpAny (model prog w) A (call (.builtin "list.extend") [.ref D, .ref b]) Q E s := by
  have hd := extend_door (a := its) (b := its2) (by rw [sizeLine_eq]; omega)
  have hz1 : its.toList.length ≤ sizeLine := by rw [sizeLine_eq, Array.length_toList]; omega
  have hz2 : its.size + its2.size ≤ sizeLine + 1 := by rw [sizeLine_eq]; omega
  by_cases e : its2.toList = []
  · have U' := U n
    rw [e, List.append_nil] at U'
    exact kxn_extend F N hb e U' hd hz1 hz2 fun h' F' N' => h h' _ F' N'
  · exact kl_extend F N hb rfl (fun q => e (List.eq_nil_of_length_eq_zero q)) (U (n + 1)) hd hz1 hz2 fun h' F' N' => h h' _ F' N'
theorem lt_rows {l b : Addr} {items items2 : Array Value} {xs ys : List Int} {Q : Value → Shared → Prop} {r : Bool} (F : Fr h₀ L s.heap m) (hl : h₀.IsList l items) (hb : h₀.IsList b items2) (i1 : IntsAre items.toList xs) (i2 : IntsAre items2.toList ys) (hsz : items.size = items2.size) (hu : A.units < cLine)
    (hr : lexB (fun a b => decide (a < b)) xs ys = r) (h : Q (.bool r) s) : wpAny (model prog w) A (compareOp .Lt (.ref l) (.ref b)) Q E s := lt_lists (F.lst hl) (F.lst hb) i1 i2 hsz hu (by rw [hr]; exact h)
theorem gt_rows {l b : Addr} {items items2 : Array Value} {xs ys : List Int} {Q : Value → Shared → Prop} {r : Bool} (F : Fr h₀ L s.heap m) (hl : h₀.IsList l items) (hb : h₀.IsList b items2) (i1 : IntsAre items.toList xs) (i2 : IntsAre items2.toList ys) (hsz : items.size = items2.size) (hu : A.units < cLine)
    (hr : lexB (fun a b => decide (b < a)) xs ys = r) (h : Q (.bool r) s) : wpAny (model prog w) A (compareOp .Gt (.ref l) (.ref b)) Q E s := gt_lists (F.lst hl) (F.lst hb) i1 i2 hsz hu (by rw [hr]; exact h)
theorem eq_rows {l b : Addr} {items items2 : Array Value} {x y : Int} {Q : Value → Shared → Prop} (F : Fr h₀ L s.heap m) (hl : h₀.IsList l items) (hb : h₀.IsList b items2) (i1 : IntsAre items.toList (sixesOf x)) (i2 : IntsAre items2.toList (sixesOf y)) (hne : x ≠ y) (hu : A.units + 64 < cLine)
    (h : Q (.bool false) s) : wpAny (model prog w) A (compareOp .Eq (.ref l) (.ref b)) Q E s :=
  eqD_no (Rd.listI (F.lst hl) (.ints i1)) (Rd.listI (F.lst hb) (.ints i2)) (fun q => hne (sixes_inj (by
    injection q with q
    exact (List.map_inj_right (fun a b e => by injection e)).mp q))) (by simp [kqdOk, sixesOf]) (by simp [kqdOk, sixesOf]) hu h
end
theorem pick_from {items : List Value} {x : Nat} : (slicePick items.toArray (some (x : Int)) none none).toList = items.drop x := by
  have e : sliceBounds (some (x : Int)) none none items.toArray.size = (((min x items.toArray.size : Nat) : Int), ((items.toArray.size : Nat) : Int), 1) := by
    simp only [sliceBounds, Option.getD_none, show (1 : Int) > 0 by decide, if_true, if_neg (show ¬ ((x : Int) < 0) by omega)]
    congr 1
    congr 1
    omega
  rw [kmk_pick_nat _ e]
  simp only [List.size_toArray]
  rw [List.take_of_length_le (by simp), kmk_drop_min]
local macro_rules | `(tactic| walk_at "exec Try") => `(tactic| refine Stop.out ?_)
local macro_rules | `(tactic| walk_at "exec Try cons nil") => `(tactic| refine Stop.out ?_)
local macro_rules | `(tactic| walk_at "compareOp Lt ref ref") => `(tactic| k_extra "lt")
local macro_rules | `(tactic| walk_at "compareOp Gt ref ref") => `(tactic| k_extra "gt")
local macro_rules | `(tactic| walk_at "compareOp Eq ref ref") => `(tactic| k_extra "eq")
local macro_rules | `(tactic| walk_at "call builtin:list.append") => `(tactic| k_extra "append")
local macro_rules | `(tactic| walk_at "call builtin:list.extend") => `(tactic| refine Stop.out ?_)
local macro_rules | `(tactic| walk_at "subscriptTail Name Slice ref ref") => `(tactic| refine Stop.out ?_)
local macro_rules | `(tactic| walk_at "subscriptTail Name Name ref int") => `(tactic| k_extra "item")
local macro_rules | `(tactic| walk_at "ite") => `(tactic| k_extra "ite")
local macro_rules | `(tactic| walk_at "exec While Constant cons nil") => `(tactic| refine Stop.out ?_)
local macro_rules | `(tactic| walk_at "exec While Compare cons nil") => `(tactic| refine Stop.out ?_)
local macro_rules | `(tactic| walk_at "exec While Compare") => `(tactic| refine Stop.out ?_)
local macro_rules | `(tactic| walk_at "exec While") => `(tactic| refine Stop.out ?_)
set_option maxHeartbeats 0 in
theorem sld_call {prog : Program} {w : World} {mean : ExcName → Option Value} {mg mb : Str → Option Value} {A : Around} {s : Shared} {E : Value → Shared → Prop} {Q : Value → Shared → Prop} {l : List Env} {frs : List (Addr × Obj)} {e0 a0 : Addr} {cE cA : Nat} {es as : List (Int × Addr)}
    (W : Wd w mean mg mb (hideAll s.heap (frs.map (·.1)))) (R : Rm 0 A) (hfr : A.frames = some l) (Fs : Frs l frs) (hF : ∀ p ∈ frs, s.heap.get? p.1 = some p.2)
    (he : s.heap.get? e0 = some (listOf (refs es).toArray cE)) (ha : s.heap.get? a0 = some (listOf (refs as).toArray cA)) (re : RowsAt s.heap es) (ra : RowsAt s.heap as)
    (pe : (es.map (·.1)).Pairwise (· < ·)) (pa : (as.map (·.1)).Pairwise (· < ·)) (hne : as ≠ []) (htop : ∀ a ∈ as, ∃ e ∈ es, a.1 < e.1) (hlen : es.length ≤ 100) (hlen2 : as.length ≤ 100)
    (hQ : ∀ (T M U : Addr) (h' : Heap) tk' cM cU frs', SameUp frs frs' → (∀ p ∈ frs', h'.get? p.1 = some p.2) → (∀ b o, b ∉ frs.map (·.1) → s.heap.get? b = some o → h'.get? b = some o) → s.heap.get? T = none → s.heap.get? M = none → s.heap.get? U = none →
      h'.get? T = some { cls := .type "tuple", data := .seq #[.ref M, .ref U] } → h'.get? M = some (listOf (refs (sld es as).1).toArray cM) → h'.get? U = some (listOf (refs (sld es as).2).toArray cU) → Q (.ref T) { s with heap := h', toks := tk' }) :
    wpAny (model prog w) A (call (.ref 28) [.ref e0, .ref a0]) Q E s := by
  obtain ⟨X, T⟩ := W
  obtain ⟨hd', dp, fr, gd, un⟩ := A
  obtain ⟨r1, r2, r3⟩ := R
  dsimp only at r1 r2 r3 hfr
  subst r1 hfr
  w_on
  have fl2 : (fun (_ : OpenLaw) (_ : Params → Frag) => True) PySem.Challenge.rw_ny0066_01 Mine.hd.heap_39 := by
    k_fill
    trivial
  clear fl2
  refine' enter (K := hd.heap_39 w.params) (binds := [(Str.ofString "expected", .ref e0), (Str.ofString "actual", .ref a0)]) (frs.map (·.1)) (X.keeps fun b o e => of_hideAll _ e) (T.nolimit.keeps fun b o e => of_hideAll _ e) ?k6 ?k7 ?k8 ?k9 ?kB ?_ ?c2 ?c3 ?c4 ?c5
  case k6 => k_is
  case k7 => k_is
  case k8 => simp only [recursionLimit]; omega
  case k9 => exact BindsTo.of_eq rfl
  case kB => exact locs rfl
  case c2 => exact rfl
  case c3 => exact rfl
  case c4 => exact rfl
  case c5 => decide
  intro L h₁ hL F K1
  have hlt : ∀ {b o}, s.heap.get? b = some o → b ≠ L := fun {b o} e q => by
    have := Heap.lt_size e; rw [q, hL] at this; exact Nat.lt_irrefl _ this
  have N : News (hideAll s.heap (frs.map (·.1))) L h₁ frs := by
    intro p hp
    exact ⟨K1 _ _ (hF p hp), hlt (hF p hp), hideAll_none _ (List.mem_map_of_mem hp)⟩
  have hfl' : ∀ {b o vs c}, s.heap.get? b = some o → o.data = .seq vs c → b ∉ frs.map (·.1) := fun {b o vs c} hb hdt q => by
    obtain ⟨p, hp, e⟩ := List.mem_map.mp q
    obtain ⟨es', ep, hd⟩ := Fs.dict p hp
    have := hF p hp
    rw [e, hb] at this
    injection this with this; rw [← this, hdt] at hd; cases hd
  have hfl : ∀ {b vs c}, s.heap.get? b = some (listOf vs c) → b ∉ frs.map (·.1) := fun {b vs c} hb q => by
    obtain ⟨p, hp, e⟩ := List.mem_map.mp q
    obtain ⟨es', ep, hd⟩ := Fs.dict p hp
    have := hF p hp
    rw [e, hb] at this
    injection this with this; rw [← this] at hd; cases hd
  have he' := hideAll_get _ he (hfl he)
  have ha' := hideAll_get _ ha (hfl ha)
  have re' : RowsAt (hideAll s.heap (frs.map (·.1))) es := fun p hp => by
    obtain ⟨h0, vs, ⟨o, ho, hc, n, hdt⟩, e2⟩ := re p hp
    exact ⟨h0, vs, ⟨o, hideAll_get _ ho (hfl' ho hdt), hc, n, hdt⟩, e2⟩
  have ra' : RowsAt (hideAll s.heap (frs.map (·.1))) as := fun p hp => by
    obtain ⟨h0, vs, ⟨o, ho, hc, n, hdt⟩, e2⟩ := ra p hp
    exact ⟨h0, vs, ⟨o, hideAll_get _ ho (hfl' ho hdt), hc, n, hdt⟩, e2⟩
  have hkeep : ∀ h' : Heap, (∀ b o, (hideAll s.heap (frs.map (·.1))).get? b = some o → h'.get? b = some o) → ∀ b o, b ∉ frs.map (·.1) → s.heap.get? b = some o → h'.get? b = some o := fun h' k b o h3 e =>
    k b o (hideAll_get _ e h3)
  have hnone : ∀ b, (hideAll s.heap (frs.map (·.1))).get? b = none → b ∉ frs.map (·.1) → s.heap.get? b = none := fun b hb h3 => by
    cases q : s.heap.get? b with
    | none => rfl
    | some o => rw [hideAll_get _ q h3] at hb; cases hb
  clear re ra
  generalize hideAll s.heap (frs.map (·.1)) = g at *
  k_with_none
  k_steps
  refine Stop.on ?_
  rename Fr _ _ _ _ => F0
  rename News _ _ _ _ => N0
  rename_i U hu1 lU hu2
  rename_i _ _ M hm1 lM _
  have hUM : U ≠ M := neN (Nat.ne_of_gt lU.1)
  have hMf : ∀ p ∈ frs, p.1 ≠ M := fun p hp => Nat.ne_of_lt (lM p hp)
  have hUf : ∀ p ∈ frs, p.1 ≠ U := fun p hp => Nat.ne_of_lt (allLt_mem lU.2 p hp)
  have hcl : 1000 + 64 < cLine := by decide
  refine' While_brk (fun k m news => ∃ (e a : Int × Addr) (es1 er as1 ar ms us : List (Int × Addr)) (cm cu : Nat) (ti tj : Tok) (frs1 : List (Addr × Obj)), SameUp frs frs1 ∧ Frs l frs1 ∧ m (Str.ofString "expected") = some (.ref e0) ∧ m (Str.ofString "actual") = some (.ref a0) ∧
    m (Str.ofString "i") = some (.int (es1.length : Int) ti) ∧ m (Str.ofString "j") = some (.int (as1.length : Int) tj) ∧ m (Str.ofString "missing") = some (.ref M) ∧ m (Str.ofString "unexpected") = some (.ref U) ∧
    news = (U, listOf (refs us).toArray cu) :: (M, listOf (refs ms).toArray cm) :: frs1 ∧ es = es1 ++ e :: er ∧ as = as1 ++ a :: ar ∧ ms ++ (sld (e :: er) (a :: ar)).1 = (sld es as).1 ∧ us ++ (sld (e :: er) (a :: ar)).2 = (sld es as).2 ∧ k = er.length + ar.length ∧ ms.length + er.length ≤ 100 ∧ us.length + ar.length ≤ 100) (n₀ := (es.length - 1) + (as.length - 1)) F0 N0 ?h0 ?turn
  case h0 =>
    cases as with
    | nil => exact absurd rfl hne
    | cons a ar =>
      cases es with
      | nil => obtain ⟨e, he1, _⟩ := htop a (.head _); cases he1
      | cons e er =>
        simp only [List.length_cons] at hlen hlen2
        exact ⟨e, a, [], er, [], ar, [], [], 0, 0, _, _, frs, SameUp.refl _, Fs, rfl, rfl, rfl, rfl, rfl, rfl, rfl, rfl, rfl, rfl, rfl, by simp, by simp; omega, by simp; omega⟩
  case turn =>
    intro k m1 news1 h2 tk2 F2 N2 hJ
    obtain ⟨e, a, es1, er, as1, ar, ms, us, cm, cu, ti, tj, frs1, SU1, Fs1, m1a, m1b, m1c, m1d, m1e, m1f, rfl, ees, eas, e1, e2, ek, b1, b2⟩ := hJ
    have F3 := Fr_over [(_, _), (_, _), (_, _), (_, _), (_, _), (_, _)] F2 ⟨m1a, m1b, m1c, m1d, m1e, m1f, trivial⟩
    dsimp only [over] at F3
    clear F2 F0 N0
    have hf1 : ∀ p ∈ frs1, p.1 ≠ M ∧ p.1 ≠ U := fun p hp => by
      obtain ⟨q, hq, e⟩ := SU1.fwd p hp
      rw [e]
      exact ⟨hMf q hq, hUf q hq⟩
    obtain ⟨en0, vse, ge, ie⟩ := re' e (by rw [ees]; simp)
    obtain ⟨an0, vsa, ga, ia⟩ := ra' a (by rw [eas]; simp)
    have hE1 : es1.length + er.length + 1 ≤ 100 := by rw [ees] at hlen; simp at hlen; omega
    have hA1 : as1.length + ar.length + 1 ≤ 100 := by rw [eas] at hlen2; simp at hlen2; omega
    have hgE : (refs es).toArray[(es1.length : Int).toNat]? = some (.ref e.2) := by rw [ees]; simp [refs]
    have hgA : (refs as).toArray[(as1.length : Int).toNat]? = some (.ref a.2) := by rw [eas]; simp [refs]
    have hlE : g.IsList e0 (refs es).toArray := ⟨_, he', rfl, _, rfl⟩
    have hlA : g.IsList a0 (refs as).toArray := ⟨_, ha', rfl, _, rfl⟩
    have hz : vse.size = vsa.size := by
      have q1 := IntsAre.length ie
      have q2 := IntsAre.length ia
      rw [Array.length_toList] at q1 q2
      rw [q1, q2]; rfl
    k_steps
    refine Stop.on ?_
    refine try_split fun H hP hH => ?_
    have fin : ∀ (e' : Addr) (h h' : Heap) (tk : Nat) (mm : Str → Option Value) (ms us : List (Int × Addr)) (cm cu i j : Nat) (ti tj : Tok), Heap.NewExc h h' e' "IndexError" → Fr g L h mm → News g L h ((U, listOf (refs us).toArray cu) :: (M, listOf (refs ms).toArray cm) :: frs1) →
        mm (Str.ofString "expected") = some (.ref e0) → mm (Str.ofString "actual") = some (.ref a0) → mm (Str.ofString "i") = some (.int (i : Int) ti) → mm (Str.ofString "j") = some (.int (j : Int) tj) → mm (Str.ofString "missing") = some (.ref M) → mm (Str.ofString "unexpected") = some (.ref U) →
        ms ++ es.drop i = (sld es as).1 → us ++ as.drop j = (sld es as).2 → ms.length ≤ 200 → us.length ≤ 200 → H (.ref e') { s with heap := h', toks := tk } := by
      intro e' h h' tk mm ms us cm cu i j ti tj hx F8 N8 q1 q2 q3 q4 q5 q6 z1 z2 z3 z4
      refine hH _ _ ?_
      have F9 := Fr_over [(_, _), (_, _), (_, _), (_, _), (_, _), (_, _)] F8 ⟨q1, q2, q3, q4, q5, q6, trivial⟩
      dsimp only [over] at F9
      clear F8 F3 N2
      refine catch_index (s' := { s with heap := h', toks := tk }) (new := [_, _]) rfl Fs1 hx F9 N8 ?_ T ?_ rfl rfl
      · intro p hp hq
        have hNp := N8 p (by
          simp only [List.mem_cons, List.not_mem_nil, or_false] at hp
          rcases hp with rfl | rfl
          · exact .head _
          · exact .tail _ (.head _))
        rcases List.mem_cons.mp hq with q | q
        · exact hNp.2.1 q
        · obtain ⟨r, hr, e⟩ := List.mem_map.mp q
          have := hf1 r hr
          simp only [List.mem_cons, List.not_mem_nil, or_false] at hp
          rcases hp with rfl | rfl
          · exact this.2 e
          · exact this.1 e
      intro h7 frs2 SU2 Fs2 F7 N7
      dsimp only [List.cons_append, List.nil_append] at N7
      clear F9 N8 hx
      have hf2 : ∀ p ∈ frs2, p.1 ≠ M ∧ p.1 ≠ U := fun p hp => by
        obtain ⟨q, hq, e⟩ := SU2.fwd p hp
        rw [e]
        exact hf1 q hq
      have hzE : (refs es).toArray.size ≤ sizeLine := by rw [sizeLine_eq]; simp [refs]; omega
      have hzA : (refs as).toArray.size ≤ sizeLine := by rw [sizeLine_eq]; simp [refs]; omega
      k_steps
      refine Stop.on ?_
      refine kmk_slice_lit (s := { s with heap := h7, toks := tk }) F7 N7 (Fr.lst F7 hlE) (.int _ _) .none pick_from ?_ (by with_unfolding_all rfl) (by intro _; with_unfolding_all rfl) hzE
      intro D1 h9 F9 N9 lD1
      clear F7 N7
      k_steps
      refine Stop.on ?_
      dsimp only [List.cons_append, List.nil_append]
      refine extend_any F9 N9 (.head _) (fun k => Upd.tail (neN (Nat.ne_of_gt (lD1 _ (.tail _ (.head _))))) (Upd.tail (neN hUM) (Upd.head fun p hp => (hf2 p hp).1))) (by simp [refs]; omega) ?_
      intro h10 k10 F10 N10
      clear F9 N9
      k_steps
      refine Stop.on ?_
      refine kmk_slice_lit (s := { s with heap := h10, toks := tk }) F10 N10 (Fr.lst F10 hlA) (.int _ _) .none pick_from ?_ (by with_unfolding_all rfl) (by intro _; with_unfolding_all rfl) hzA
      intro D2 h11 F11 N11 lD2
      clear F10 N10
      k_steps
      refine Stop.on ?_
      dsimp only [List.cons_append, List.nil_append]
      refine extend_any F11 N11 (.head _) (fun k => Upd.tail (neN (Nat.ne_of_gt (lD2 _ (.tail _ (.head _))))) (Upd.tail (neN (Nat.ne_of_gt (lD1 _ (.head _)))) (Upd.head fun p hp => ?_))) (by simp [refs]; omega) ?_
      · rcases List.mem_cons.mp hp with rfl | hp
        · exact hUM.symm
        · exact (hf2 p hp).2
      intro h12 k12 F12 N12
      clear F11 N11
      k_steps
      dsimp only [StepB]
      k_steps
      rename Fr _ _ _ _ => F13
      rename News _ _ _ _ => N13
      rename _ ∧ _ ∧ _ ∧ _ ∧ AllLt _ _ => lD3
      have zr1 : (refs ms).toArray.toList ++ (List.drop i (refs es)).toArray.toList = refs (sld es as).1 := by rw [← z1]; simp [refs, List.map_drop]
      have zr2 : (refs us).toArray.toList ++ (List.drop j (refs as)).toArray.toList = refs (sld es as).2 := by rw [← z2]; simp [refs, List.map_drop]
      rw [zr1, zr2] at N13
      have fresh : ∀ b, g.get? b = none → (∀ p ∈ frs, p.1 ≠ b) → s.heap.get? b = none := fun b hb h3 => hnone b hb fun q => by
        obtain ⟨p, hp, e⟩ := List.mem_map.mp q
        exact h3 p hp e
      dsimp only
      refine hQ _ M U _ _ k10 k12 frs2 (SU1.trans SU2) (fun p hp => (N13 p (.tail _ (.tail _ (.tail _ (.tail _ (.tail _ hp)))))).1) (hkeep _ F13.keep) (fresh _ (N13 _ (.head _)).2.2 fun p hp => ?_) (fresh _ (N13 _ (.tail _ (.tail _ (.tail _ (.tail _ (.head _)))))).2.2 hMf) (fresh _ (N13 _ (.tail _ (.tail _ (.tail _ (.head _))))).2.2 hUf) (N13 _ (.head _)).1 (N13 _ (.tail _ (.tail _ (.tail _ (.tail _ (.head _)))))).1 (N13 _ (.tail _ (.tail _ (.tail _ (.head _))))).1
      obtain ⟨sl, hp'⟩ := (SU1.trans SU2).back p hp
      have q := allLt_mem lD3.2.2.2.2 _ hp'
      exact Nat.ne_of_lt q
    have hgE2 : ∀ e2 er2, er = e2 :: er2 → (refs es).toArray[((es1.length : Int) + 1).toNat]? = some (.ref e2.2) := fun e2 er2 q => by
      have : ((es1.length : Int) + 1).toNat = es1.length + 1 := by omega
      rw [this, ees, q]; simp [refs]
    have hgA2 : ∀ a2 ar2, ar = a2 :: ar2 → (refs as).toArray[((as1.length : Int) + 1).toNat]? = some (.ref a2.2) := fun a2 ar2 q => by
      have : ((as1.length : Int) + 1).toNat = as1.length + 1 := by omega
      rw [this, eas, q]; simp [refs]
    obtain ⟨et, het, htt⟩ := htop a (by rw [eas]; simp)
    have herne : e.1 ≤ a.1 → ∃ e2 er2, er = e2 :: er2 := fun hle => by
      clear F3 N2 fin hH hP hgE2 e1 e2 ek
      cases er with
      | cons e3 er3 => exact ⟨e3, er3, rfl⟩
      | nil =>
        exfalso
        rw [ees] at het pe
        rw [List.map_append, List.pairwise_append] at pe
        rcases List.mem_append.mp het with q | q
        · have := pe.2.2 et.1 (List.mem_map_of_mem q) e.1 (by simp)
          omega
        · simp at q; subst q; omega
    k_with "item" => (k_dflt (first | (refine' item_list (Fr.lst ?F hlE) (by omega) (by omega) hgE ?_; (case F => k_asm)) | (refine' item_list (Fr.lst ?F hlA) (by omega) (by omega) hgA ?_; (case F => k_asm))))
    by_cases hlt1 : e.1 < a.1
    · obtain ⟨e3, er3, rfl⟩ := herne (by omega)
      have hr1 : lexB (fun a b => decide (a < b)) (sixesOf e.1) (sixesOf a.1) = true := by rw [lex_lt en0 an0]; exact decide_eq_true hlt1
      k_with "lt" => (k_dflt (refine' lt_rows ?F ge ga ie ia hz (by simp only [Around.deeper, cLine]; omega) hr1 ?_; (case F => k_asm)))
      have hvm : (refs ms).toArray.size ≤ sizeLine := by rw [sizeLine_eq]; simp [refs]; omega
      k_with "append" => ((dsimp only [List.cons_append, List.nil_append]); k_dflt (refine' append_K ?F ?N ?U ?_ hvm; (case F => k_asm); (case N => k_asm); (case U => exact Upd.tail (neN hUM) (Upd.head fun p hp => (hf1 p hp).1))); intro h8 F8 N8)
      k_steps
      refine Stop.on ?_
      refine While_not hP ?_
      have hgE3 := hgE2 _ _ rfl
      obtain ⟨_, vs3, g3, i3⟩ := re' e3 (by rw [ees]; simp)
      have hne3 : e3.1 ≠ e.1 := by
        rw [ees, List.map_append, List.pairwise_append] at pe
        have := pe.2.1
        simp only [List.map_cons, List.pairwise_cons] at this
        have := this.1 e3.1 (.head _)
        omega
      k_with "item" => (k_dflt (refine' item_list (Fr.lst ?F hlE) (by omega) (by omega) hgE3 ?_; (case F => k_asm)))
      k_with "eq" => (k_dflt (refine' eq_rows ?F g3 ge i3 ie hne3 (by simp only [Around.deeper, cLine]; omega) ?_; (case F => k_asm)))
      refine wpAny_mono (Q := fun b s₂ => Stop _) ?_ (fun _ _ h => h) (fun _ _ h => h)
      k_steps
      refine Stop.on ⟨rfl, ?_⟩
      k_steps
      have hsl : sld (e :: e3 :: er3) (a :: ar) = (e :: (sld (e3 :: er3) (a :: ar)).1, (sld (e3 :: er3) (a :: ar)).2) := by rw [sld, if_pos hlt1]
      have hl3 : ((es1 ++ [e]).length : Int) = es1.length + 1 := by simp
      simp only [List.length_cons] at ek b1
      refine StepB.intro (n' := er3.length + ar.length) (by k_asm) (by k_asm) (by omega) ⟨e3, a, es1 ++ [e], er3, as1, ar, ms ++ [e], us, cm + 1, cu, _, tj, frs1, SU1, Fs1, rfl, rfl, by rw [hl3]; rfl, rfl, rfl, rfl, by simp [refs], by rw [ees]; simp, eas, by rw [← e1, hsl]; simp, by rw [← e2, hsl], rfl, by simp; omega, b2⟩
    · k_with "item" => (k_dflt (first | (refine' item_list (Fr.lst ?F hlE) (by omega) (by omega) hgE ?_; (case F => k_asm)) | (refine' item_list (Fr.lst ?F hlA) (by omega) (by omega) hgA ?_; (case F => k_asm))))
      have hr1 : lexB (fun a b => decide (a < b)) (sixesOf e.1) (sixesOf a.1) = false := by rw [lex_lt en0 an0]; exact decide_eq_false hlt1
      k_with "lt" => (k_dflt (refine' lt_rows ?F ge ga ie ia hz (by simp only [Around.deeper, cLine]; omega) hr1 ?_; (case F => k_asm)))
      by_cases hgt1 : a.1 < e.1
      · have hr2 : lexB (fun a b => decide (b < a)) (sixesOf e.1) (sixesOf a.1) = true := by rw [lex_gt en0 an0]; exact decide_eq_true hgt1
        k_with "gt" => (k_dflt (refine' gt_rows ?F ge ga ie ia hz (by simp only [Around.deeper, cLine]; omega) hr2 ?_; (case F => k_asm)))
        have hvm : (refs us).toArray.size ≤ sizeLine := by rw [sizeLine_eq]; simp [refs]; omega
        have hap : ∀ p ∈ (M, listOf (refs ms).toArray cm) :: frs1, p.1 ≠ U := fun p hp => by
          rcases List.mem_cons.mp hp with rfl | hp
          · exact hUM.symm
          · exact (hf1 p hp).2
        k_with "append" => ((dsimp only [List.cons_append, List.nil_append]); k_dflt (refine' append_K ?F ?N ?U ?_ hvm; (case F => k_asm); (case N => k_asm); (case U => exact Upd.head hap)); intro h8 F8 N8)
        k_steps
        refine Stop.on ?_
        refine While_not hP ?_
        refine wpAny_mono (Q := fun b s₂ => Stop _) ?_ (fun _ _ h => h) (fun _ _ h => h)
        have hsl : sld (e :: er) (a :: ar) = ((sld (e :: er) ar).1, a :: (sld (e :: er) ar).2) := by rw [sld, if_neg hlt1, if_pos hgt1]
        have hl3 : ((as1 ++ [a]).length : Int) = as1.length + 1 := by simp
        cases ar with
        | cons a3 ar3 =>
          have hgA3 := hgA2 _ _ rfl
          obtain ⟨_, vs3, g3, i3⟩ := ra' a3 (by rw [eas]; simp)
          have hne3 : a3.1 ≠ a.1 := by
            rw [eas, List.map_append, List.pairwise_append] at pa
            have := pa.2.1
            simp only [List.map_cons, List.pairwise_cons] at this
            have := this.1 a3.1 (.head _)
            omega
          k_with "item" => (k_dflt (refine' item_list (Fr.lst ?F hlA) (by omega) (by omega) hgA3 ?_; (case F => k_asm)))
          k_with "eq" => (k_dflt (refine' eq_rows ?F g3 ga i3 ia hne3 (by simp only [Around.deeper, cLine]; omega) ?_; (case F => k_asm)))
          k_steps
          refine Stop.on ⟨rfl, ?_⟩
          k_steps
          simp only [List.length_cons] at ek b2
          refine StepB.intro (n' := er.length + ar3.length) (by k_asm) (by k_asm) (by omega) ⟨e, a3, es1, er, as1 ++ [a], ar3, ms, us ++ [a], cm, cu + 1, ti, _, frs1, SU1, Fs1, rfl, rfl, rfl, by rw [hl3]; rfl, rfl, rfl, by simp [refs], ees, by rw [eas]; simp, by rw [← e1, hsl], by rw [← e2, hsl]; simp, rfl, b1, by simp; omega⟩
        | nil =>
          have hout : (((as1.length : Int) + 1) < -((refs as).toArray.size : Int)) ∨ (((refs as).toArray.size : Int) ≤ (as1.length : Int) + 1) := by
            rw [eas]; simp [refs]
          k_with "item" => refine Stop.out ?_
          k_steps
          refine Stop.on ?_
          rename Fr _ _ _ _ => F9
          rename News _ _ _ _ => N9
          refine item_outK rfl (Fr.lst F9 hlA) hout (by omega) (by omega) ?_
          intro h10 tk10 e10 hx10
          refine fin e10 _ h10 tk10 _ ms (us ++ [a]) cm (cu + 1) es1.length (as1 ++ [a]).length ti _ hx10 F9 (by simpa [refs] using N9) rfl rfl rfl (by rw [hl3]; rfl) rfl rfl (by rw [← e1, hsl, ees, sld_nil]; simp) (by rw [← e2, hsl, eas, sld_nil]; simp) (by omega) (by simp; omega)
      · have hr2 : lexB (fun a b => decide (b < a)) (sixesOf e.1) (sixesOf a.1) = false := by rw [lex_gt en0 an0]; exact decide_eq_false hgt1
        k_with "gt" => (k_dflt (refine' gt_rows ?F ge ga ie ia hz (by simp only [Around.deeper, cLine]; omega) hr2 ?_; (case F => k_asm)))
        obtain ⟨e3, er3, rfl⟩ := herne (by omega)
        have hsl : sld (e :: e3 :: er3) (a :: ar) = sld (e3 :: er3) ar := by rw [sld, if_neg hlt1, if_neg hgt1]
        have hl2 : ((es1 ++ [e]).length : Int) = es1.length + 1 := by simp
        have hl3 : ((as1 ++ [a]).length : Int) = as1.length + 1 := by simp
        have hgE3 := hgE2 _ _ rfl
        obtain ⟨_, vs3, g3, i3⟩ := re' e3 (by rw [ees]; simp)
        have hne3 : e3.1 ≠ e.1 := by
          rw [ees, List.map_append, List.pairwise_append] at pe
          have := pe.2.1
          simp only [List.map_cons, List.pairwise_cons] at this
          have := this.1 e3.1 (.head _)
          omega
        k_with "item" => (k_dflt (first | (refine' item_list (Fr.lst ?F hlE) (by omega) (by omega) hgE ?_; (case F => k_asm)) | (refine' item_list (Fr.lst ?F hlA) (by omega) (by omega) hgA ?_; (case F => k_asm))))
        k_steps
        refine Stop.on ?_
        refine wpAny_Try_finally ?_
        refine wpAny_mono (E := fun _ _ => False) ?_ (fun _ _ h => h) (fun _ _ x => x.elim)
        k_steps
        refine Stop.on ?_
        refine While_not passes_false ?_
        k_with "item" => (k_dflt (refine' item_list (Fr.lst ?F hlE) (by omega) (by omega) hgE3 ?_; (case F => k_asm)))
        k_with "eq" => (k_dflt (refine' eq_rows ?F g3 ge i3 ie hne3 (by simp only [Around.deeper, cLine]; omega) ?_; (case F => k_asm)))
        refine wpAny_mono (Q := fun b s₂ => Stop _) ?_ (fun _ _ h => h) (fun _ _ h => h)
        k_steps
        refine Stop.on ⟨rfl, ?_⟩
        refine wpAny_execs_nil ?_
        refine wpAny_execs_nil ?_
        refine wpAny_mono (E := H) ?_ (fun _ _ h => h) hP
        k_steps
        refine Stop.on ?_
        refine While_not hP ?_
        refine wpAny_mono (Q := fun b s₂ => Stop _) ?_ (fun _ _ h => h) (fun _ _ h => h)
        cases ar with
        | cons a3 ar3 =>
          have hgA3 := hgA2 _ _ rfl
          obtain ⟨_, vs4, g4, i4⟩ := ra' a3 (by rw [eas]; simp)
          have hne4 : a3.1 ≠ a.1 := by
            rw [eas, List.map_append, List.pairwise_append] at pa
            have := pa.2.1
            simp only [List.map_cons, List.pairwise_cons] at this
            have := this.1 a3.1 (.head _)
            omega
          k_with "item" => (k_dflt (refine' item_list (Fr.lst ?F hlA) (by omega) (by omega) hgA3 ?_; (case F => k_asm)))
          k_with "eq" => (k_dflt (refine' eq_rows ?F g4 ga i4 ia hne4 (by simp only [Around.deeper, cLine]; omega) ?_; (case F => k_asm)))
          k_steps
          refine Stop.on ⟨rfl, ?_⟩
          k_steps
          simp only [List.length_cons] at ek b1 b2
          refine StepB.intro (n' := er3.length + ar3.length) (by k_asm) (by k_asm) (by omega) ⟨e3, a3, es1 ++ [e], er3, as1 ++ [a], ar3, ms, us, cm, cu, _, _, frs1, SU1, Fs1, rfl, rfl, by rw [hl2]; rfl, by rw [hl3]; rfl, rfl, rfl, rfl, by rw [ees]; simp, by rw [eas]; simp, by rw [← e1, hsl], by rw [← e2, hsl], rfl, by omega, by omega⟩
        | nil =>
          have hout : (((as1.length : Int) + 1) < -((refs as).toArray.size : Int)) ∨ (((refs as).toArray.size : Int) ≤ (as1.length : Int) + 1) := by
            rw [eas]; simp [refs]
          k_with "item" => refine Stop.out ?_
          k_steps
          refine Stop.on ?_
          rename Fr _ _ _ _ => F9
          rename News _ _ _ _ => N9
          refine item_outK rfl (Fr.lst F9 hlA) hout (by omega) (by omega) ?_
          intro h10 tk10 e10 hx10
          refine fin e10 _ h10 tk10 _ ms us cm cu (es1 ++ [e]).length (as1 ++ [a]).length _ _ hx10 F9 N9 rfl rfl (by rw [hl2]; rfl) (by rw [hl3]; rfl) rfl rfl (by rw [← e1, hsl, ees, sld_nil]; simp) (by rw [← e2, hsl, eas, sld_nil]; simp) (by omega) (by omega)
end Mine
end
section
open PySem PySem.W PyProof.Rows PySem.Calls PySem.Spec
set_option maxRecDepth 100000
namespace Mine
theorem all_items {items : Array Value} {vs : List Value} (hl : vs.length = items.size) (h : ∀ (j : Nat) (v : Value), vs[j]? = some v → items[j]? = some v) : vs = items.toList := by
  apply List.ext_getElem?
  intro j
  by_cases hj : j < vs.length
  · rw [Array.getElem?_toList (xs := items), h j vs[j] (by simp [hj])]; simp [hj]
  · rw [List.getElem?_eq_none (by omega), List.getElem?_eq_none (by rw [Array.length_toList]; omega)]
section
variable {prog : Program} {w : World} {A : Around} {E : Value → Shared → Prop} {s : Shared} {env : Env} {scope : Scope} {cl : List (Str × Addr)} {x : Str} {ifs : List Expr} {elt : Expr} {Q : Value → Shared → Prop} {l : Addr} {items : Array Value} {p : Value → Bool}
/-- a comprehension over a list whose elements are new lists -/
theorem iterO {G : Value → Array Value → Prop} (hh : A.handled = none) (hl : s.heap.IsList l items) (hsz : items.size ≤ sizeLine)
    (tests : ∀ (C : Addr) (i : Nat) (v : Value) (s₃ : Shared) (m₃ : Str → Option Value) (E' : Value → Shared → Prop), s.heap.objs.size ≤ C → items[i]? = some v → s₃.heap.Ns C m₃ → m₃ x = some v → (∀ b o, s.heap.get? b = some o → s₃.heap.get? b = some o) →
      wpAny (model prog w) A (forIn ifs true fun c r => if r = true then do let ok ← isTrue c (compEnvC scope cl C env) (eval c (compEnvC scope cl C env)); pure (ForInStep.yield ok) else pure (ForInStep.yield r)) (fun ok s₄ => ok = p v ∧ Keeps s₃ s₄) E' s₃)
    (elem : ∀ (C : Addr) (i : Nat) (v : Value) (s₃ : Shared) (m₃ : Str → Option Value) (E' : Value → Shared → Prop), s.heap.objs.size ≤ C → items[i]? = some v → p v = true → s₃.heap.Ns C m₃ → m₃ x = some v → (∀ b o, s.heap.get? b = some o → s₃.heap.get? b = some o) →
      wpAny (model prog w) A (eval elt (compEnvC scope cl C env)) (fun y s₄ => (∃ T its, y = .ref T ∧ s₃.heap.get? T = none ∧ s₄.heap.IsList T its ∧ G v its) ∧ Keeps s₃ s₄) E' s₃)
    (fin : ∀ D h' tk ys, s.heap.get? D = none → h'.PlainList D ys → Paired (LstIs s.heap G h') (items.toList.filter p) ys.toList → (∀ b o, s.heap.get? b = some o → h'.get? b = some o) → Q (.ref D) { s with heap := h', toks := tk }) :
    wpAny (model prog w) A (pyIter (.ref l)) (fun it s₂ => ∃ I fp wr n P St, it = .ref I ∧ Walks prog w A I fp wr n P St ∧ n ≤ sizeLine ∧ (∀ i h, St i h → ∀ b ∈ wr, ∃ o, h.get? b = some o) ∧ St 0 s₂.heap ∧ (∀ b ∈ fp, b < s₂.heap.objs.size) ∧
      QuietOnCO prog w A env scope cl x ifs elt wr P p G s₂ ∧
      (∀ D h' tk ys (vs : List Value), s₂.heap.get? D = none → h'.IsList D ys → h'.PlainList D ys → vs.length = n → (∀ j v, vs[j]? = some v → P j v) → Paired (LstIs s₂.heap G h') (vs.filter p) ys.toList → ys.toList.Pairwise (· ≠ ·) →
        (∀ y ∈ ys.toList, y ≠ .ref D) → (∀ b o, b ∉ wr → s₂.heap.get? b = some o → h'.get? b = some o) → Q (.ref D) { s₂ with heap := h', toks := tk })) E s := by
  have hls : l < s.heap.objs.size := by obtain ⟨o, ho, _⟩ := hl; exact Heap.lt_size ho
  refine wpAny_pyIter_list hl ?_
  have kp : ∀ {h : Heap}, (∀ b o, b ∉ [s.heap.objs.size] → (s.heap.push { cls := .type "list_iterator", data := .fields #[.ref l, .int 0 0] }).get? b = some o → h.get? b = some o) → ∀ b o, s.heap.get? b = some o → h.get? b = some o := fun hk b o e =>
    hk b o (fun q => by have := Heap.lt_size e; rw [List.mem_singleton.mp q] at this; exact Nat.lt_irrefl _ this) (Heap.get?_push_of_some _ e)
  have nn : ∀ {b : Addr}, (s.heap.push { cls := .type "list_iterator", data := .fields #[.ref l, .int 0 0] }).get? b = none → s.heap.get? b = none := fun {b} e => by
    cases q : s.heap.get? b with
    | none => rfl
    | some o => rw [Heap.get?_push_of_some _ q] at e; cases e
  refine ⟨_, _, _, _, _, _, rfl, Walks.list hh s.heap.objs.size l (Nat.ne_of_lt hls) items, hsz, ?live, ⟨⟨_, Heap.get?_push_size _ rfl, rfl, rfl⟩, hl.push _⟩, ?fp, ⟨?tests, ?elt⟩, ?fin⟩
  case live =>
    rintro i h ⟨⟨o, ho, _⟩, _⟩ b hb
    rw [List.mem_singleton.mp hb]
    exact ⟨o, ho⟩
  case fp =>
    intro b hb
    rw [Heap.size_push]
    simp only [List.mem_cons, List.not_mem_nil, or_false] at hb
    rcases hb with rfl | rfl
    · exact Nat.lt_succ_self _
    · exact Nat.lt_succ_of_lt hls
  case tests =>
    intro C i v s₃ m₃ E' hC hP hn hm hk _
    exact tests C i v s₃ m₃ E' (Nat.le_trans (by rw [Heap.size_push]; exact Nat.le_succ _) hC) hP hn hm (kp hk)
  case elt =>
    intro C i v s₃ m₃ E' hC hP hp hn hm hk _
    exact elem C i v s₃ m₃ E' (Nat.le_trans (by rw [Heap.size_push]; exact Nat.le_succ _) hC) hP hp hn hm (kp hk)
  case fin =>
    intro D h' tk ys vs hD _ hpl hlen hP hF _ _ hk
    have e := all_items hlen hP
    subst e
    exact fin D h' tk ys (nn hD) hpl (hF.mono fun _ _ hy => by obtain ⟨T, its, rfl, h1, r⟩ := hy; exact ⟨T, its, rfl, nn h1, r⟩) (kp hk)
/-- a comprehension over a list whose elements are plain values -/
theorem iterF {G : Value → Value → Prop} (hh : A.handled = none) (hl : s.heap.IsList l items) (hsz : items.size ≤ sizeLine)
    (tests : ∀ (C : Addr) (i : Nat) (v : Value) (s₃ : Shared) (m₃ : Str → Option Value) (E' : Value → Shared → Prop), s.heap.objs.size ≤ C → items[i]? = some v → s₃.heap.Ns C m₃ → m₃ x = some v → (∀ b o, s.heap.get? b = some o → s₃.heap.get? b = some o) →
      wpAny (model prog w) A (forIn ifs true fun c r => if r = true then do let ok ← isTrue c (compEnvC scope cl C env) (eval c (compEnvC scope cl C env)); pure (ForInStep.yield ok) else pure (ForInStep.yield r)) (fun ok s₄ => ok = p v ∧ Keeps s₃ s₄) E' s₃)
    (elem : ∀ (C : Addr) (i : Nat) (v : Value) (s₃ : Shared) (m₃ : Str → Option Value) (E' : Value → Shared → Prop), s.heap.objs.size ≤ C → items[i]? = some v → p v = true → s₃.heap.Ns C m₃ → m₃ x = some v → (∀ b o, s.heap.get? b = some o → s₃.heap.get? b = some o) →
      wpAny (model prog w) A (eval elt (compEnvC scope cl C env)) (fun y s₄ => G v y ∧ Keeps s₃ s₄) E' s₃)
    (fin : ∀ D h' tk ys, s.heap.get? D = none → h'.PlainList D ys → Paired G (items.toList.filter p) ys.toList → (∀ b o, s.heap.get? b = some o → h'.get? b = some o) → Q (.ref D) { s with heap := h', toks := tk }) :
    wpAny (model prog w) A (pyIter (.ref l)) (fun it s₂ => ∃ I fp wr n P St, it = .ref I ∧ Walks prog w A I fp wr n P St ∧ n ≤ sizeLine ∧ St 0 s₂.heap ∧ (∀ b ∈ fp, b < s₂.heap.objs.size) ∧
      QuietOnC prog w A env scope cl x ifs elt wr P p G s₂ ∧
      (∀ D h' tk ys (vs : List Value), s₂.heap.get? D = none → h'.IsList D ys → h'.PlainList D ys → vs.length = n → (∀ j v, vs[j]? = some v → P j v) → Paired G (vs.filter p) ys.toList →
        (∀ b o, b ∉ wr → s₂.heap.get? b = some o → h'.get? b = some o) → Q (.ref D) { s₂ with heap := h', toks := tk })) E s := by
  have hls : l < s.heap.objs.size := by obtain ⟨o, ho, _⟩ := hl; exact Heap.lt_size ho
  refine wpAny_pyIter_list hl ?_
  have kp : ∀ {h : Heap}, (∀ b o, b ∉ [s.heap.objs.size] → (s.heap.push { cls := .type "list_iterator", data := .fields #[.ref l, .int 0 0] }).get? b = some o → h.get? b = some o) → ∀ b o, s.heap.get? b = some o → h.get? b = some o := fun hk b o e =>
    hk b o (fun q => by have := Heap.lt_size e; rw [List.mem_singleton.mp q] at this; exact Nat.lt_irrefl _ this) (Heap.get?_push_of_some _ e)
  have nn : ∀ {b : Addr}, (s.heap.push { cls := .type "list_iterator", data := .fields #[.ref l, .int 0 0] }).get? b = none → s.heap.get? b = none := fun {b} e => by
    cases q : s.heap.get? b with
    | none => rfl
    | some o => rw [Heap.get?_push_of_some _ q] at e; cases e
  refine ⟨_, _, _, _, _, _, rfl, Walks.list hh s.heap.objs.size l (Nat.ne_of_lt hls) items, hsz, ⟨⟨_, Heap.get?_push_size _ rfl, rfl, rfl⟩, hl.push _⟩, ?fp, ⟨?tests, ?elt⟩, ?fin⟩
  case fp =>
    intro b hb
    rw [Heap.size_push]
    simp only [List.mem_cons, List.not_mem_nil, or_false] at hb
    rcases hb with rfl | rfl
    · exact Nat.lt_succ_self _
    · exact Nat.lt_succ_of_lt hls
  case tests =>
    intro C i v s₃ m₃ E' hC hP hn hm hk _
    exact tests C i v s₃ m₃ E' (Nat.le_trans (by rw [Heap.size_push]; exact Nat.le_succ _) hC) hP hn hm (kp hk)
  case elt =>
    intro C i v s₃ m₃ E' hC hP hp hn hm hk _
    exact elem C i v s₃ m₃ E' (Nat.le_trans (by rw [Heap.size_push]; exact Nat.le_succ _) hC) hP hp hn hm (kp hk)
  case fin =>
    intro D h' tk ys vs hD _ hpl hlen hP hF hk
    have e := all_items hlen hP
    subst e
    exact fin D h' tk ys (nn hD) hpl hF (kp hk)
theorem compO {iter : Expr} {px pos : Pos} (p : Value → Bool) (G : Value → Array Value → Prop) (hh : A.handled = none)
    (hclos : closureFor scope env = pure cl) (hcell : ∀ y ∈ scope.names, y.2 ≠ .cell) (hkind : scope.kind = .function)
    (hnames : ∀ y ∈ scope.names, y.2 = .local → scope.names.lookup y.1 = some .local) (hx : scope.names.lookup x = some .local)
    (h : wpAny (model prog w) A (eval iter env) (fun xv s₁ => Stop (∃ l items, xv = .ref l ∧ s₁.heap.IsList l items ∧ items.size ≤ sizeLine ∧
      (∀ (C : Addr) (i : Nat) (v : Value) (s₃ : Shared) (m₃ : Str → Option Value) (E' : Value → Shared → Prop), s₁.heap.objs.size ≤ C → items[i]? = some v → s₃.heap.Ns C m₃ → m₃ x = some v → (∀ b o, s₁.heap.get? b = some o → s₃.heap.get? b = some o) →
      wpAny (model prog w) A (forIn ifs true fun c r => if r = true then do let ok ← isTrue c (compEnvC scope cl C env) (eval c (compEnvC scope cl C env)); pure (ForInStep.yield ok) else pure (ForInStep.yield r)) (fun ok s₄ => ok = p v ∧ Keeps s₃ s₄) E' s₃) ∧
      (∀ (C : Addr) (i : Nat) (v : Value) (s₃ : Shared) (m₃ : Str → Option Value) (E' : Value → Shared → Prop), s₁.heap.objs.size ≤ C → items[i]? = some v → p v = true → s₃.heap.Ns C m₃ → m₃ x = some v → (∀ b o, s₁.heap.get? b = some o → s₃.heap.get? b = some o) →
      wpAny (model prog w) A (eval elt (compEnvC scope cl C env)) (fun y s₄ => (∃ T its, y = .ref T ∧ s₃.heap.get? T = none ∧ s₄.heap.IsList T its ∧ G v its) ∧ Keeps s₃ s₄) E' s₃) ∧
      (∀ D h' tk ys, s₁.heap.get? D = none → h'.PlainList D ys → Paired (LstIs s₁.heap G h') (items.toList.filter p) ys.toList → (∀ b o, s₁.heap.get? b = some o → h'.get? b = some o) → Q (.ref D) { s₁ with heap := h', toks := tk }))) E s)
    (hs : ∀ x, foldedSetIterable iter env x = pure x := by intro _; rfl) :
    wpAny (model prog w) A (eval (.ListComp elt [⟨.Name x px, iter, ifs, 0⟩] scope pos) env) Q E s :=
  wpAny_ListComp_freeO (cl := cl) p G hclos hcell hkind hnames hx (wpAny_mono h (fun xv s₁ hx => by
    obtain ⟨l, items, rfl, h1, h2, h3, h4, h5⟩ := hx
    exact iterO hh h1 h2 h3 h4 h5) fun _ _ e => e) hs
theorem compF {iter : Expr} {px pos : Pos} (p : Value → Bool) (G : Value → Value → Prop) (hh : A.handled = none)
    (hclos : closureFor scope env = pure cl) (hcell : ∀ y ∈ scope.names, y.2 ≠ .cell) (hkind : scope.kind = .function)
    (hnames : ∀ y ∈ scope.names, y.2 = .local → scope.names.lookup y.1 = some .local) (hx : scope.names.lookup x = some .local)
    (h : wpAny (model prog w) A (eval iter env) (fun xv s₁ => Stop (∃ l items, xv = .ref l ∧ s₁.heap.IsList l items ∧ items.size ≤ sizeLine ∧
      (∀ (C : Addr) (i : Nat) (v : Value) (s₃ : Shared) (m₃ : Str → Option Value) (E' : Value → Shared → Prop), s₁.heap.objs.size ≤ C → items[i]? = some v → s₃.heap.Ns C m₃ → m₃ x = some v → (∀ b o, s₁.heap.get? b = some o → s₃.heap.get? b = some o) →
      wpAny (model prog w) A (forIn ifs true fun c r => if r = true then do let ok ← isTrue c (compEnvC scope cl C env) (eval c (compEnvC scope cl C env)); pure (ForInStep.yield ok) else pure (ForInStep.yield r)) (fun ok s₄ => ok = p v ∧ Keeps s₃ s₄) E' s₃) ∧
      (∀ (C : Addr) (i : Nat) (v : Value) (s₃ : Shared) (m₃ : Str → Option Value) (E' : Value → Shared → Prop), s₁.heap.objs.size ≤ C → items[i]? = some v → p v = true → s₃.heap.Ns C m₃ → m₃ x = some v → (∀ b o, s₁.heap.get? b = some o → s₃.heap.get? b = some o) →
      wpAny (model prog w) A (eval elt (compEnvC scope cl C env)) (fun y s₄ => G v y ∧ Keeps s₃ s₄) E' s₃) ∧
      (∀ D h' tk ys, s₁.heap.get? D = none → h'.PlainList D ys → Paired (G) (items.toList.filter p) ys.toList → (∀ b o, s₁.heap.get? b = some o → h'.get? b = some o) → Q (.ref D) { s₁ with heap := h', toks := tk }))) E s)
    (hs : ∀ x, foldedSetIterable iter env x = pure x := by intro _; rfl) :
    wpAny (model prog w) A (eval (.ListComp elt [⟨.Name x px, iter, ifs, 0⟩] scope pos) env) Q E s :=
  wpAny_ListComp_free (cl := cl) p G hclos hcell hkind hnames hx (wpAny_mono h (fun xv s₁ hx => by
    obtain ⟨l, items, rfl, h1, h2, h3, h4, h5⟩ := hx
    exact iterF hh h1 h2 h3 h4 h5) fun _ _ e => e) hs
/-- a comprehension over a tuple whose elements are new lists -/
theorem iterOT {G : Value → Array Value → Prop} (hh : A.handled = none) (hl : s.heap.IsTuple l items) (hsz : items.size ≤ sizeLine)
    (tests : ∀ (C : Addr) (i : Nat) (v : Value) (s₃ : Shared) (m₃ : Str → Option Value) (E' : Value → Shared → Prop), s.heap.objs.size ≤ C → items[i]? = some v → s₃.heap.Ns C m₃ → m₃ x = some v → (∀ b o, s.heap.get? b = some o → s₃.heap.get? b = some o) →
      wpAny (model prog w) A (forIn ifs true fun c r => if r = true then do let ok ← isTrue c (compEnvC scope cl C env) (eval c (compEnvC scope cl C env)); pure (ForInStep.yield ok) else pure (ForInStep.yield r)) (fun ok s₄ => ok = p v ∧ Keeps s₃ s₄) E' s₃)
    (elem : ∀ (C : Addr) (i : Nat) (v : Value) (s₃ : Shared) (m₃ : Str → Option Value) (E' : Value → Shared → Prop), s.heap.objs.size ≤ C → items[i]? = some v → p v = true → s₃.heap.Ns C m₃ → m₃ x = some v → (∀ b o, s.heap.get? b = some o → s₃.heap.get? b = some o) →
      wpAny (model prog w) A (eval elt (compEnvC scope cl C env)) (fun y s₄ => (∃ T its, y = .ref T ∧ s₃.heap.get? T = none ∧ s₄.heap.IsList T its ∧ G v its) ∧ Keeps s₃ s₄) E' s₃)
    (fin : ∀ D h' tk ys, s.heap.get? D = none → h'.PlainList D ys → Paired (LstIs s.heap G h') (items.toList.filter p) ys.toList → (∀ b o, s.heap.get? b = some o → h'.get? b = some o) → Q (.ref D) { s with heap := h', toks := tk }) :
    wpAny (model prog w) A (pyIter (.ref l)) (fun it s₂ => ∃ I fp wr n P St, it = .ref I ∧ Walks prog w A I fp wr n P St ∧ n ≤ sizeLine ∧ (∀ i h, St i h → ∀ b ∈ wr, ∃ o, h.get? b = some o) ∧ St 0 s₂.heap ∧ (∀ b ∈ fp, b < s₂.heap.objs.size) ∧
      QuietOnCO prog w A env scope cl x ifs elt wr P p G s₂ ∧
      (∀ D h' tk ys (vs : List Value), s₂.heap.get? D = none → h'.IsList D ys → h'.PlainList D ys → vs.length = n → (∀ j v, vs[j]? = some v → P j v) → Paired (LstIs s₂.heap G h') (vs.filter p) ys.toList → ys.toList.Pairwise (· ≠ ·) →
        (∀ y ∈ ys.toList, y ≠ .ref D) → (∀ b o, b ∉ wr → s₂.heap.get? b = some o → h'.get? b = some o) → Q (.ref D) { s₂ with heap := h', toks := tk })) E s := by
  have hls : l < s.heap.objs.size := by obtain ⟨o, ho, _⟩ := hl; exact Heap.lt_size ho
  have hlp : (s.heap.push { cls := .type "tuple_iterator", data := .fields #[.ref l, .int 0 0] }).IsTuple l items := by obtain ⟨o, ho, q⟩ := hl; exact ⟨o, Heap.get?_push_of_some _ ho, q⟩
  refine wpAny_pyIter_tuple hl ?_
  have kp : ∀ {h : Heap}, (∀ b o, b ∉ [s.heap.objs.size] → (s.heap.push { cls := .type "tuple_iterator", data := .fields #[.ref l, .int 0 0] }).get? b = some o → h.get? b = some o) → ∀ b o, s.heap.get? b = some o → h.get? b = some o := fun hk b o e =>
    hk b o (fun q => by have := Heap.lt_size e; rw [List.mem_singleton.mp q] at this; exact Nat.lt_irrefl _ this) (Heap.get?_push_of_some _ e)
  have nn : ∀ {b : Addr}, (s.heap.push { cls := .type "tuple_iterator", data := .fields #[.ref l, .int 0 0] }).get? b = none → s.heap.get? b = none := fun {b} e => by
    cases q : s.heap.get? b with
    | none => rfl
    | some o => rw [Heap.get?_push_of_some _ q] at e; cases e
  refine ⟨_, _, _, _, _, _, rfl, Walks.tuple hh s.heap.objs.size l (Nat.ne_of_lt hls) items, hsz, ?live, ⟨⟨_, Heap.get?_push_size _ rfl, rfl, rfl⟩, hlp⟩, ?fp, ⟨?tests, ?elt⟩, ?fin⟩
  case live =>
    rintro i h ⟨⟨o, ho, _⟩, _⟩ b hb
    rw [List.mem_singleton.mp hb]
    exact ⟨o, ho⟩
  case fp =>
    intro b hb
    rw [Heap.size_push]
    simp only [List.mem_cons, List.not_mem_nil, or_false] at hb
    rcases hb with rfl | rfl
    · exact Nat.lt_succ_self _
    · exact Nat.lt_succ_of_lt hls
  case tests =>
    intro C i v s₃ m₃ E' hC hP hn hm hk _
    exact tests C i v s₃ m₃ E' (Nat.le_trans (by rw [Heap.size_push]; exact Nat.le_succ _) hC) hP hn hm (kp hk)
  case elt =>
    intro C i v s₃ m₃ E' hC hP hp hn hm hk _
    exact elem C i v s₃ m₃ E' (Nat.le_trans (by rw [Heap.size_push]; exact Nat.le_succ _) hC) hP hp hn hm (kp hk)
  case fin =>
    intro D h' tk ys vs hD _ hpl hlen hP hF _ _ hk
    have e := all_items hlen hP
    subst e
    exact fin D h' tk ys (nn hD) hpl (hF.mono fun _ _ hy => by obtain ⟨T, its, rfl, h1, r⟩ := hy; exact ⟨T, its, rfl, nn h1, r⟩) (kp hk)
theorem compOT {iter : Expr} {px pos : Pos} (p : Value → Bool) (G : Value → Array Value → Prop) (hh : A.handled = none)
    (hclos : closureFor scope env = pure cl) (hcell : ∀ y ∈ scope.names, y.2 ≠ .cell) (hkind : scope.kind = .function)
    (hnames : ∀ y ∈ scope.names, y.2 = .local → scope.names.lookup y.1 = some .local) (hx : scope.names.lookup x = some .local)
    (h : wpAny (model prog w) A (eval iter env) (fun xv s₁ => Stop (∃ l items, xv = .ref l ∧ s₁.heap.IsTuple l items ∧ items.size ≤ sizeLine ∧
      (∀ (C : Addr) (i : Nat) (v : Value) (s₃ : Shared) (m₃ : Str → Option Value) (E' : Value → Shared → Prop), s₁.heap.objs.size ≤ C → items[i]? = some v → s₃.heap.Ns C m₃ → m₃ x = some v → (∀ b o, s₁.heap.get? b = some o → s₃.heap.get? b = some o) →
      wpAny (model prog w) A (forIn ifs true fun c r => if r = true then do let ok ← isTrue c (compEnvC scope cl C env) (eval c (compEnvC scope cl C env)); pure (ForInStep.yield ok) else pure (ForInStep.yield r)) (fun ok s₄ => ok = p v ∧ Keeps s₃ s₄) E' s₃) ∧
      (∀ (C : Addr) (i : Nat) (v : Value) (s₃ : Shared) (m₃ : Str → Option Value) (E' : Value → Shared → Prop), s₁.heap.objs.size ≤ C → items[i]? = some v → p v = true → s₃.heap.Ns C m₃ → m₃ x = some v → (∀ b o, s₁.heap.get? b = some o → s₃.heap.get? b = some o) →
      wpAny (model prog w) A (eval elt (compEnvC scope cl C env)) (fun y s₄ => (∃ T its, y = .ref T ∧ s₃.heap.get? T = none ∧ s₄.heap.IsList T its ∧ G v its) ∧ Keeps s₃ s₄) E' s₃) ∧
      (∀ D h' tk ys, s₁.heap.get? D = none → h'.PlainList D ys → Paired (LstIs s₁.heap G h') (items.toList.filter p) ys.toList → (∀ b o, s₁.heap.get? b = some o → h'.get? b = some o) → Q (.ref D) { s₁ with heap := h', toks := tk }))) E s)
    (hs : ∀ x, foldedSetIterable iter env x = pure x := by intro _; rfl) :
    wpAny (model prog w) A (eval (.ListComp elt [⟨.Name x px, iter, ifs, 0⟩] scope pos) env) Q E s :=
  wpAny_ListComp_freeO (cl := cl) p G hclos hcell hkind hnames hx (wpAny_mono h (fun xv s₁ hx => by
    obtain ⟨l, items, rfl, h1, h2, h3, h4, h5⟩ := hx
    exact iterOT hh h1 h2 h3 h4 h5) fun _ _ e => e) hs
end
end Mine
end
section
open PySem PySem.W PyProof.Rows PySem.Calls PySem.Spec
open PyProof.Rows.TI (Frs SameUp)
set_option maxRecDepth 100000
namespace Mine
section
variable {prog : Program} {w : World} {mean : ExcName → Option Value} {mg mb : Str → Option Value} {A : Around} {E : Value → Shared → Prop} {s : Shared} {h₀ : Heap} {L : Addr} {m : Str → Option Value} {news : List (Addr × Obj)}
theorem once_K {Q : Value → Shared → Prop} {l : Addr} {vs : List Value} {ns : List Int} (F : Fr h₀ L s.heap m) (N : News h₀ L s.heap news) (X : (hd.heap_39 w.params).In h₀) (T : Top hd.view_39 looseN mean mg mb h₀) (R : Rm 0 A) (hl : s.heap.IsList l vs.toArray) (hv : IntsAre vs ns) (h64 : ns.length < 64)
    (h : ∀ D h' tk' ys c os, Fr h₀ L h' m → News h₀ L h' ((D, listOf ys c) :: news) → (∀ p ∈ news, p.1 ≠ D) → IntsAre ys.toList os → os.Pairwise (· < ·) → (∀ x, x ∈ os ↔ x ∈ ns) → os.length ≤ ns.length → Q (.ref D) { s with heap := h', toks := tk' }) :
    wpAny (model prog w) A (call (.ref 101) [.ref l]) Q E s :=
  once_call (Wd.keeps ⟨X, T⟩ F.keep) R hl hv h64 fun D h' tk' os k ni o1 o2 o3 => by
    obtain ⟨n1, ys, c, n2, n3⟩ := ni
    refine h D h' tk' ys c os (Fr_keeps F k) (News_add F (News_keeps N k) n1 n2) (fun p hp e => ?_) n3 o1 o2 o3
    have := (N p hp).1
    rw [e, n1] at this; cases this
end
theorem rows_of {h h' : Heap} : ∀ {vs ys : List Value} {ns : List Int}, IntsAre vs ns → (∀ n ∈ ns, 0 ≤ n) → Paired (LstIs h (fun v its => ∃ n t, v = .int n t ∧ IntsAre its.toList (sixesOf n)) h') vs ys →
    ∃ es : List (Int × Addr), ys = refs es ∧ es.map (·.1) = ns ∧ RowsAt h' es ∧ ∀ p ∈ es, h.get? p.2 = none
  | _, _, _, .nil, _, .nil => ⟨[], rfl, rfl, (fun p hp => nomatch hp), (fun p hp => nomatch hp)⟩
  | _, _, _, .cons n t hi, h0, .cons hx hp => by
    obtain ⟨es, e1, e2, e3, e4⟩ := rows_of hi (fun m hm => h0 m (.tail _ hm)) hp
    obtain ⟨T, its, rfl, hT, hl, m, u, e, hs⟩ := hx
    injection e with e _
    subst e
    refine ⟨(n, T) :: es, by rw [e1]; rfl, by rw [← e2]; rfl, fun p hp => ?_, fun p hp => ?_⟩
    · rcases List.mem_cons.mp hp with rfl | hp
      · exact ⟨h0 _ (.head _), its, hl, hs⟩
      · exact e3 p hp
    · rcases List.mem_cons.mp hp with rfl | hp
      · exact hT
      · exact e4 p hp
theorem RowsAt.keeps {h h' : Heap} {ps : List (Int × Addr)} (r : RowsAt h ps) (k : ∀ b o, h.get? b = some o → h'.get? b = some o) : RowsAt h' ps := fun p hp => by
  obtain ⟨h0, vs, ⟨o, ho, q⟩, i⟩ := r p hp
  exact ⟨h0, vs, ⟨o, k _ _ ho, q⟩, i⟩
theorem ints_mem {vs : Array Value} {ns : List Int} (h : IntsAre vs.toList ns) {i : Nat} {v : Value} (e : vs[i]? = some v) : ∃ n, n ∈ ns ∧ ∃ t, v = .int n t := by
  rw [← Array.getElem?_toList] at e
  have hl := IntsAre.length h
  have hi : i < vs.toList.length := (List.getElem?_eq_some_iff.mp e).1
  obtain ⟨t, q⟩ := ints_at h (i := i) (x := ns[i]'(by omega)) (List.getElem?_eq_getElem _)
  rw [q] at e
  injection e with e
  exact ⟨_, List.getElem_mem _, t, e.symm⟩
section
variable {prog : Program} {w : World} {mean : ExcName → Option Value} {mg mb : Str → Option Value} {A : Around} {E : Value → Shared → Prop} {s : Shared} {h₀ : Heap} {L : Addr} {m : Str → Option Value} {news : List (Addr × Obj)} {env : Env}
/-- after a call that has changed no more than the slots of the one frame -/
theorem Fr_up {h' : Heap} {oL : Obj} {sl : Array (Option Value)} (F : Fr h₀ L s.heap m) (hL : s.heap.get? L = some oL) (hL' : h'.get? L = some { oL with slots := sl }) (k : ∀ b o, b ≠ L → s.heap.get? b = some o → h'.get? b = some o) : Fr h₀ L h' m := by
  obtain ⟨o, es, ep, ho, hd, r⟩ := F.ns
  rw [hL] at ho
  injection ho with ho
  subst ho
  refine ⟨⟨_, es, ep, hL', hd, r⟩, fun b o e => ?_, F.above⟩
  exact k b o (fun q => by have := Heap.lt_size e; rw [q] at this; exact absurd (Nat.lt_of_lt_of_le this F.above) (Nat.lt_irrefl _)) (F.keep b o e)
theorem News_up {h' : Heap} (N : News h₀ L s.heap news) (k : ∀ b o, b ≠ L → s.heap.get? b = some o → h'.get? b = some o) : News h₀ L h' news := fun p hp => ⟨k _ _ (N p hp).2.1 (N p hp).1, (N p hp).2⟩
theorem one_frame (F : Fr h₀ L s.heap m) (hf : env.frame = some L) (hk : env.scope.kind = .function) : ∃ oL, s.heap.get? L = some oL ∧ Frs [env] [(L, oL)] := by
  obtain ⟨o, es, ep, ho, hd, _⟩ := F.ns
  exact ⟨o, ho, by rw [hk]; decide, hf, ⟨es, ep, hd⟩, trivial⟩
theorem hid_wd {oL : Obj} (W : Wd w mean mg mb (hideAll s.heap [L])) : Wd w mean mg mb (hideAll s.heap ([(L, oL)].map (·.1))) := W
theorem same_one {oL : Obj} : ∀ {frs' : List (Addr × Obj)}, SameUp [(L, oL)] frs' → ∃ sl, frs' = [(L, { oL with slots := sl })] := by
  intro frs' h
  cases frs' with
  | nil => exact h.elim
  | cons q r =>
    obtain ⟨e, ⟨sl, e2⟩, h3⟩ := h
    cases r with
    | nil =>
      refine ⟨sl, ?_⟩
      obtain ⟨q1, q2⟩ := q
      dsimp only at e e2
      rw [e, e2]
    | cons _ _ => exact h3.elim
theorem Wd_hid (F : Fr h₀ L s.heap m) (X : (hd.heap_39 w.params).In h₀) (T : Top hd.view_39 looseN mean mg mb h₀) : Wd w mean mg mb (hideAll s.heap [L]) :=
  Wd.keeps ⟨X, T⟩ fun b o e => hideAll_get _ (F.keep b o e) (fun q => by
    have := Heap.lt_size e; rw [List.mem_singleton.mp q] at this; exact absurd (Nat.lt_of_lt_of_le this F.above) (Nat.lt_irrefl _))
theorem sld_K {Q : Value → Shared → Prop} {e0 a0 : Addr} {cE cA : Nat} {yE yA : Array Value} {es as : List (Int × Addr)} (F : Fr h₀ L s.heap m) (N : News h₀ L s.heap news) (X : (hd.heap_39 w.params).In h₀) (T : Top hd.view_39 looseN mean mg mb h₀) (R : Rm 0 A)
    (hA : A.frames = some [env]) (hf : env.frame = some L) (hk : env.scope.kind = .function) (he : s.heap.get? e0 = some (listOf yE cE)) (ha : s.heap.get? a0 = some (listOf yA cA)) (qe : yE.toList = refs es) (qa : yA.toList = refs as) (re : RowsAt s.heap es) (ra : RowsAt s.heap as)
    (pe : (es.map (·.1)).Pairwise (· < ·)) (pa : (as.map (·.1)).Pairwise (· < ·)) (hne : as ≠ []) (htop : ∀ a ∈ as, ∃ e ∈ es, a.1 < e.1) (hlen : es.length ≤ 100) (hlen2 : as.length ≤ 100)
    (h : ∀ (Tt M U : Addr) (h' : Heap) tk' cM cU, Fr h₀ L h' m → News h₀ L h' ((Tt, { cls := .type "tuple", data := .seq #[.ref M, .ref U] }) :: (M, listOf (refs (sld es as).1).toArray cM) :: (U, listOf (refs (sld es as).2).toArray cU) :: news) → (∀ b o, b ≠ L → s.heap.get? b = some o → h'.get? b = some o) →
      s.heap.get? Tt = none → s.heap.get? M = none → s.heap.get? U = none → Q (.ref Tt) { s with heap := h', toks := tk' }) :
    wpAny (model prog w) A (call (.ref 28) [.ref e0, .ref a0]) Q E s := by
  obtain ⟨oL, hL, Fs⟩ := one_frame F hf hk
  have eE : yE = (refs es).toArray := by rw [← qe]
  have eA : yA = (refs as).toArray := by rw [← qa]
  subst eE eA
  refine sld_call (frs := [(L, oL)]) (hid_wd (Wd_hid F X T)) R hA Fs (fun p hp => by rw [List.mem_singleton.mp hp]; exact hL) he ha re ra pe pa hne htop hlen hlen2 ?_
  intro Tt M U h' tk' cM cU frs' SU hF' hkeep n1 n2 n3 g1 g2 g3
  obtain ⟨sl, rfl⟩ := same_one SU
  have k : ∀ b o, b ≠ L → s.heap.get? b = some o → h'.get? b = some o := fun b o hb e => hkeep b o (fun q => hb (by simpa using q)) e
  have hb : ∀ {b}, s.heap.get? b = none → b ≠ L ∧ h₀.get? b = none := fun {b} hn => ⟨fun q => (by rw [q, hL] at hn; cases hn), by
    cases q : h₀.get? b with
    | none => rfl
    | some o => rw [F.keep _ _ q] at hn; cases hn⟩
  refine h Tt M U h' tk' cM cU (Fr_up F hL (hF' _ (.head _)) k) ?_ k n1 n2 n3
  intro p hp
  rcases List.mem_cons.mp hp with rfl | hp
  · exact ⟨g1, hb n1⟩
  rcases List.mem_cons.mp hp with rfl | hp
  · exact ⟨g2, hb n2⟩
  rcases List.mem_cons.mp hp with rfl | hp
  · exact ⟨g3, hb n3⟩
  exact News_up N k p hp
end
theorem Rm_law {env : Env} : Rm 4 (callerA.deeper env) := ⟨rfl, by simp [Around.deeper, callerA, claimMargin], by simp [Around.deeper, callerA]⟩
theorem nums_ok {ys : List Value} {sc : List Int} (hy : IntsAre ys (List.map (fun k' : Int => k'.fmod (2 ^ Int.toNat 24)) (List.take 6 sc ++ [0, 1, 64, 4095, 4096, 266305, 16777215]))) :
    ∃ ns : List Int, IntsAre ys ns ∧ ns.length ≤ 13 ∧ (∀ x ∈ ns, 0 ≤ x ∧ x < 16777216) ∧ (16777215 : Int) ∈ ns := by
  refine ⟨_, hy, ?_, ?_, List.mem_map.mpr ⟨16777215, by simp, by decide⟩⟩
  · rw [List.length_map, List.length_append, List.length_take]
    simp only [List.length_cons, List.length_nil]
    omega
  · intro x hx
    obtain ⟨k, _, rfl⟩ := List.mem_map.mp hx
    have e : (2 : Int) ^ Int.toNat 24 = 16777216 := by decide
    rw [e, Int.fmod_eq_emod_of_nonneg _ (by decide)]
    omega
/-- rows as entries of the ledger -/
theorem rows_led {h₀ h : Heap} {L : Addr} : ∀ {es : List (Int × Addr)}, RowsAt h es → (∀ p ∈ es, p.2 ≠ L ∧ h₀.get? p.2 = none) → ∃ ros, News h₀ L h ros ∧ ∀ h', News h₀ L h' ros → RowsAt h' es
  | [], _, _ => ⟨[], (fun p hp => nomatch hp), fun h' _ p hp => nomatch hp⟩
  | e :: es, r, hb => by
    obtain ⟨ros, n1, n2⟩ := rows_led (fun p hp => r p (.tail _ hp)) (fun p hp => hb p (.tail _ hp))
    obtain ⟨h0, vs, ⟨o, ho, q⟩, i⟩ := r e (.head _)
    refine ⟨(e.2, o) :: ros, fun p hp => ?_, fun h' N p hp => ?_⟩
    · rcases List.mem_cons.mp hp with rfl | hp
      · exact ⟨ho, hb e (.head _)⟩
      · exact n1 p hp
    · rcases List.mem_cons.mp hp with rfl | hp
      · exact ⟨h0, vs, ⟨o, (N _ (.head _)).1, q⟩, i⟩
      · exact n2 h' (fun p hp => N p (.tail _ hp)) p hp
theorem News_app {h₀ h : Heap} {L : Addr} {a b : List (Addr × Obj)} (A : News h₀ L h a) (B : News h₀ L h b) : News h₀ L h (a ++ b) := fun p hp => by
  rcases List.mem_append.mp hp with q | q
  · exact A p q
  · exact B p q
theorem RowsAt.app {h : Heap} {a b : List (Int × Addr)} (A : RowsAt h a) (B : RowsAt h b) : RowsAt h (a ++ b) := fun p hp => by
  rcases List.mem_append.mp hp with q | q
  · exact A p q
  · exact B p q
def notIn (hs : List Int) (v : Value) : Bool := match v with | .int n _ => !(hs.any (· == n)) | _ => false
theorem paired_same : ∀ {a b : List Value}, Paired (fun v y => y = v) a b → b = a
  | _, _, .nil => rfl
  | _, _, .cons h t => by rw [h, paired_same t]
theorem ints_notIn {hs : List Int} : ∀ {vs : List Value} {ns : List Int}, IntsAre vs ns → IntsAre (vs.filter (notIn hs)) (ns.filter fun n => !(hs.any (· == n)))
  | _, _, .nil => .nil
  | _, _, .cons n t h => by
    have ih := ints_notIn (hs := hs) h
    rw [List.filter_cons, List.filter_cons]
    have e : notIn hs (.int n t) = !(hs.any (· == n)) := rfl
    rw [e]
    split
    · exact .cons _ _ ih
    · exact ih
theorem ints_uniq : ∀ {vs : List Value} {a b : List Int}, IntsAre vs a → IntsAre vs b → a = b
  | _, _, _, .nil, .nil => rfl
  | _, _, _, .cons _ _ h, .cons _ _ h' => by rw [ints_uniq h h']
theorem rows_num {h : Heap} {ps : List (Int × Addr)} (r : RowsAt h ps) {p q : Int × Addr} (hp : p ∈ ps) (hq : q ∈ ps) (e : p.2 = q.2) : p.1 = q.1 := by
  obtain ⟨_, vs, ⟨o, ho, _, n, hd⟩, i⟩ := r p hp
  obtain ⟨_, vs', ⟨o', ho', _, n', hd'⟩, i'⟩ := r q hq
  rw [e, ho'] at ho
  injection ho with ho
  rw [← ho, hd'] at hd
  injection hd with hd _
  subst hd
  exact sixes_inj (ints_uniq i i')
theorem paired_nums {ps : List (Int × Addr)} : ∀ {qs : List (Int × Addr)} {ys : List Value}, (∀ q ∈ qs, q ∈ ps) → Paired (fun v y => ∃ n t, y = Value.int n t ∧ ∀ p ∈ ps, v = Value.ref p.2 → p.1 = n) (refs qs) ys → IntsAre ys (qs.map (·.1))
  | [], _, _, .nil => .nil
  | q :: qs, _, hs, .cons h t => by
    obtain ⟨n, u, rfl, hn⟩ := h
    have := hn q (hs q (.head _)) rfl
    subst this
    exact .cons _ _ (paired_nums (fun r hr => hs r (.tail _ hr)) t)
end Mine
end
section
open PySem PySem.W PyProof.Rows PySem.Calls PySem.Spec
open PyProof.Rows.TI (Frs SameUp)
set_option maxRecDepth 100000
namespace Mine
section
variable {prog : Program} {w : World} {A : Around} {E : Value → Shared → Prop} {s : Shared} {env : Env} {scope : Scope} {cl : List (Str × Addr)} {x : Str} {ifs : List Expr} {elt : Expr} {Q : Value → Shared → Prop} {l : Addr} {items : Array Value} {L : Addr} {oL : Obj}
theorem item_made {value slice : PySem.Expr} {k : Int} {t : Tok} {v : Value} (hl : s.heap.IsList l items) (h0 : 0 ≤ k) (hfit : k < 2 ^ 63) (hx : items[k.toNat]? = some v) (h : Q v s)
    (hs : subscripted slice false (.ref l) (.int k t) = operate [.ref l, .int k t] (getItem (.ref l) (.int k t)) := by with_unfolding_all rfl) :
    wpAny (model prog w) A (subscriptTail value slice (.ref l) (.int k t)) Q E s :=
  tail_any hl.typeIs slot_list_getitem.lookup (wpAny_getItem_list hl h0 hfit hx h) hs
/-- the frame's object but for its slots -/
def SlAt (h : Heap) (L : Addr) (oL : Obj) : Prop := ∃ sl, h.get? L = some { oL with slots := sl }
/-- a state that holds all but the frame's slots -/
def KeepsZ (L : Addr) (oL : Obj) (s s' : Shared) : Prop := ∃ h' tk, s' = { s with heap := h', toks := tk } ∧ (∀ b o, b ≠ L → s.heap.get? b = some o → h'.get? b = some o) ∧ SlAt h' L oL
/-- the loop of a comprehension that takes no item, its test changing the frame's slots alone -/
theorem loopZ {R : Result → Shared → Prop} {iter : Expr} {px pos : Pos} {I D : Addr} {cenv : Env} {m : Str → Option Value} (hh : A.handled = none)
    (hx : cenv.kindOf x = some .local) (hp : (cenv.scope.kind == .class || (cenv.scope.kind == .module && cenv.locals != cenv.globals)) = false)
    (hDI : D ≠ I) (hDC : D ≠ cenv.locals) (hIC : I ≠ cenv.locals) (haI : l ≠ I) (haC : l ≠ cenv.locals) (hLI : L ≠ I) (hLC : L ≠ cenv.locals) (hLD : L ≠ D) (hLl : l ≠ L)
    (hit : s.heap.IsListIter I l 0) (hl : s.heap.IsList l items) (hacc : s.heap.PlainList D #[]) (hn : s.heap.Ns cenv.locals m) (hL : SlAt s.heap L oL)
    (htests : ∀ (i : Nat) (v : Value) (s₂ : Shared) (m₂ : Str → Option Value), items[i]? = some v → s₂.heap.Ns cenv.locals m₂ → m₂ x = some v → (∀ b o, b ≠ cenv.locals → b ≠ I → b ≠ L → s.heap.get? b = some o → s₂.heap.get? b = some o) → SlAt s₂.heap L oL →
      wpAny (model prog w) A (forIn ifs true fun c r => if r = true then do let ok ← isTrue c cenv (eval c cenv); pure (ForInStep.yield ok) else pure (ForInStep.yield r))
        (fun ok s₃ => ok = false ∧ KeepsZ L oL s₂ s₃) (notedBy (model prog w) A cenv fun e s' => R (.error e) s') s₂)
    (hR : ∀ h' tk m', h'.Ns cenv.locals m' → h'.PlainList D #[] → (∀ b o, b ≠ cenv.locals → b ≠ I → b ≠ L → s.heap.get? b = some o → h'.get? b = some o) → SlAt h' L oL → R (.ok .next) { s with heap := h', toks := tk }) :
    codeAny (model prog w) A (.compLoop (.ListComp elt [⟨.Name x px, iter, ifs, 0⟩] scope pos) 0 (.ref I) (.ref D) cenv) R s := by
  refine codeAny_compLoop_tests
    (fun k s' => ∃ h' tk m' i, s' = { s with heap := h', toks := tk } ∧ h'.IsListIter I l i ∧ h'.IsList l items ∧ h'.PlainList D #[] ∧ h'.Ns cenv.locals m' ∧ i ≤ items.size ∧ k = items.size + 1 - i ∧
      (∀ b o, b ≠ cenv.locals → b ≠ I → b ≠ L → s.heap.get? b = some o → h'.get? b = some o) ∧ SlAt h' L oL) ?_ (items.size + 1)
    ⟨s.heap, s.toks, m, 0, rfl, hit, hl, hacc, hn, Nat.zero_le _, rfl, fun _ _ _ _ _ e => e, hL⟩
  rintro k s' ⟨H, tk, m', i, rfl, hit', hl', hacc', hn', hi, rfl, hk, hL'⟩
  cases hv : items[i]? with
  | none =>
    refine wpAny_pyNext_list_end hh hit' hl' hv fun h₁ he₁ => ?_
    refine hR h₁ tk m' (hn'.extBut he₁ (Ne.symm hIC)) (hacc'.extBut he₁ hDI) (fun b o hbC hbI hbL e => he₁ b o hbI (hk b o hbC hbI hbL e)) ?_
    obtain ⟨sl, q⟩ := hL'
    exact ⟨sl, he₁ _ _ hLI q⟩
  | some v =>
    have hlt : i < items.size := (Array.getElem?_eq_some_iff.mp hv).1
    refine wpAny_pyNext_list_item hit' hl' hv fun h₁ hit₁ hs₁ => ?_
    refine wpAny_assign_Name (wpAny_storeName_local hx (hn'.sameBut hs₁ (Ne.symm hIC)) (fun h₂ hn₂ hs₂ => ?_) hp)
    have hL₂ : SlAt h₂ L oL := by
      obtain ⟨sl, q⟩ := hL'
      exact ⟨sl, hs₂.extBut _ _ hLC (hs₁.extBut _ _ hLI q)⟩
    refine wpAny_mono (htests i v _ _ hv hn₂ (by simp) (fun b o hbC hbI hbL e => hs₂.extBut b o hbC (hs₁.extBut b o hbI (hk b o hbC hbI hbL e))) hL₂) (fun ok s₃ h₃ => ?_) fun _ _ e => e
    obtain ⟨rfl, h₃, tk₃, rfl, hk₃, hL₃⟩ := h₃
    have up₃ : ∀ b o, b ≠ cenv.locals → b ≠ I → b ≠ L → H.get? b = some o → h₃.get? b = some o := fun b o hbC hbI hbL e => hk₃ b o hbL (hs₂.extBut b o hbC (hs₁.extBut b o hbI e))
    simp only [Bool.false_eq_true, if_false]
    exact ⟨items.size + 1 - (i + 1), by omega, h₃, tk₃, _, i + 1, rfl, (hit₁.extBut hs₂.extBut hIC).at fun o e => hk₃ _ o hLI.symm e, hl'.at fun o e => up₃ l o haC haI hLl e, hacc'.at fun o e => up₃ D o hDC hDI hLD.symm e,
      hn₂.at' fun o e => hk₃ _ o hLC.symm e, hlt, rfl, fun b o hbC hbI hbL e => up₃ b o hbC hbI hbL (hk b o hbC hbI hbL e), hL₃⟩
theorem blockZ {iter : Expr} {px pos : Pos} {s₂ : Shared} {I : Addr} {RR : Value → Addr → Result → Shared → Prop} (hh : A.handled = none)
    (haI : l ≠ I) (hLI : L ≠ I) (hLl : l ≠ L) (hit : s₂.heap.IsListIter I l 0) (hl : s₂.heap.IsList l items) (hL : s₂.heap.get? L = some oL)
    (hcell : ∀ y ∈ scope.names, y.2 ≠ .cell) (hkind : scope.kind = .function) (hx : scope.names.lookup x = some .local)
    (tests : ∀ (C : Addr) (i : Nat) (v : Value) (s₃ : Shared) (m₃ : Str → Option Value) (E' : Value → Shared → Prop), s₂.heap.objs.size ≤ C → items[i]? = some v → s₃.heap.Ns C m₃ → m₃ x = some v → (∀ b o, b ≠ I → b ≠ L → s₂.heap.get? b = some o → s₃.heap.get? b = some o) → SlAt s₃.heap L oL →
      wpAny (model prog w) A (forIn ifs true fun c r => if r = true then do let ok ← isTrue c (compEnvC scope cl C env) (eval c (compEnvC scope cl C env)); pure (ForInStep.yield ok) else pure (ForInStep.yield r)) (fun ok s₄ => ok = false ∧ KeepsZ L oL s₃ s₄) E' s₃)
    (hRR : ∀ D C h' tk m', s₂.heap.get? D = none → s₂.heap.get? C = none → D ≠ C → h'.Ns C m' → h'.PlainList D #[] → (∀ b o, b ≠ I → b ≠ L → s₂.heap.get? b = some o → h'.get? b = some o) → SlAt h' L oL → RR (.ref D) C (.ok .next) { s₂ with heap := h', toks := tk }) :
    wpAny (model prog w) A (newList []) (fun acc s₃ => wpAny (model prog w) A (newFunctionEnv scope env.globals cl [] env.qual none .none (some env)) (fun cenv s₄ =>
      codeAny (model prog w) A (.compStart (.ListComp elt [⟨.Name x px, iter, ifs, 0⟩] scope pos) 0 (.ref I) acc { cenv with scope := relabel scope env }) (RR acc cenv.locals) s₄) E s₃) E s₂ := by
  refine wpAny_newObj_type (wpAny_newFunctionEnv hcell (by intro y hy; simp at hy) (fun h₁ hns₁ hsb₁ => ?_) hkind)
  dsimp only at hns₁ hsb₁ ⊢
  generalize hH2 : s₂.heap.push { cls := .type "list", dict := none, data := .seq ([] : List Value).toArray } = H2 at hns₁ hsb₁ ⊢
  have hC : H2.objs.size = s₂.heap.objs.size + 1 := by rw [← hH2, Heap.size_push]
  have hDC : s₂.heap.objs.size ≠ H2.objs.size := by rw [hC]; exact Nat.ne_of_lt (Nat.lt_succ_self _)
  have hCle : s₂.heap.objs.size ≤ H2.objs.size := by rw [hC]; exact Nat.le_succ _
  have below : ∀ b, b < s₂.heap.objs.size → b ≠ H2.objs.size ∧ b ≠ s₂.heap.objs.size := fun b hb => ⟨by rw [hC]; exact Nat.ne_of_lt (Nat.lt_succ_of_lt hb), Nat.ne_of_lt hb⟩
  have old : ∀ b o, s₂.heap.get? b = some o → h₁.get? b = some o := fun b o e => hsb₁.extBut b o (below b (Heap.lt_size e)).1 (Heap.get?_push_of_some _ (hH2 ▸ Heap.get?_push_of_some _ e))
  have hacc : h₁.PlainList s₂.heap.objs.size #[] := ⟨_, hsb₁.extBut _ _ hDC (Heap.get?_push_of_some _ (hH2 ▸ Heap.get?_push_size _ rfl))⟩
  have fresh : ∀ a, s₂.heap.objs.size ≤ a → s₂.heap.get? a = none := fun a ha => by
    cases e : s₂.heap.get? a with
    | none => rfl
    | some o' => exact absurd (Heap.lt_size e) (Nat.not_lt.mpr ha)
  have hIlt : I < s₂.heap.objs.size := by obtain ⟨o, ho, _⟩ := hit; exact Heap.lt_size ho
  have hllt : l < s₂.heap.objs.size := by obtain ⟨o, ho, _⟩ := hl; exact Heap.lt_size ho
  have hLlt : L < s₂.heap.objs.size := Heap.lt_size hL
  have hit₁ : h₁.IsListIter I l 0 := hit.at fun o e => old _ o e
  have loop : ∀ s₃ : Shared, s₃ = { s₂ with heap := h₁, toks := s₂.toks + ([] : List (Str × Value)).length } →
      codeAny (model prog w) A (.compLoop (.ListComp elt [⟨.Name x px, iter, ifs, 0⟩] scope pos) 0 (.ref I) (.ref s₂.heap.objs.size) (compEnvC scope cl H2.objs.size env))
        (RR (.ref s₂.heap.objs.size) H2.objs.size) s₃ := by
    rintro s₃ rfl
    refine loopZ (l := l) (items := items) (L := L) (oL := oL) (cenv := compEnvC scope cl H2.objs.size env) hh (lookup_relabel_local hx) (by simp [compEnvC, relabel, hkind])
      (below I hIlt).2.symm hDC (below I hIlt).1 haI (below l hllt).1 hLI (below L hLlt).1 (below L hLlt).2 hLl hit₁ (hl.at fun o e => old _ o e) hacc hns₁ ⟨oL.slots, old _ _ hL⟩
      (fun i v s₃ m₃ hv hn hm hk hS => tests _ i v s₃ m₃ _ hCle hv hn hm (fun b o hbI hbL e => hk b o (below b (Heap.lt_size e)).1 hbI hbL (old b o e)) hS) fun h' tk m' hn ha hk hS => ?_
    exact hRR _ _ h' tk m' (fresh _ (Nat.le_refl _)) (fresh _ (by rw [hC]; exact Nat.le_succ _)) hDC hn ha (fun b o hbI hbL e => hk b o (below b (Heap.lt_size e)).1 hbI hbL (old b o e)) hS
  exact codeAny_compStart_list (loop _ rfl) (wpAny_pyIter_listiter hit₁ (loop _ rfl))
/-- a comprehension over a list that takes no item, its test changing the frame's slots alone -/
theorem compZ {iter : Expr} {px pos : Pos} (hh : A.handled = none)
    (hclos : closureFor scope env = pure cl) (hcell : ∀ y ∈ scope.names, y.2 ≠ .cell) (hkind : scope.kind = .function)
    (hnames : ∀ y ∈ scope.names, y.2 = .local → scope.names.lookup y.1 = some .local) (hx : scope.names.lookup x = some .local)
    (h : wpAny (model prog w) A (eval iter env) (fun xv s₁ => Stop (∃ l items L oL, xv = .ref l ∧ s₁.heap.IsList l items ∧ l ≠ L ∧ s₁.heap.get? L = some oL ∧
      (∀ (C : Addr) (i : Nat) (v : Value) (s₃ : Shared) (m₃ : Str → Option Value) (E' : Value → Shared → Prop), s₁.heap.objs.size ≤ C → items[i]? = some v → s₃.heap.Ns C m₃ → m₃ x = some v → (∀ b o, b ≠ L → s₁.heap.get? b = some o → s₃.heap.get? b = some o) → SlAt s₃.heap L oL →
      wpAny (model prog w) A (forIn ifs true fun c r => if r = true then do let ok ← isTrue c (compEnvC scope cl C env) (eval c (compEnvC scope cl C env)); pure (ForInStep.yield ok) else pure (ForInStep.yield r)) (fun ok s₄ => ok = false ∧ KeepsZ L oL s₃ s₄) E' s₃) ∧
      (∀ D h' tk, s₁.heap.get? D = none → h'.PlainList D #[] → (∀ b o, b ≠ L → s₁.heap.get? b = some o → h'.get? b = some o) → SlAt h' L oL → Q (.ref D) { s₁ with heap := h', toks := tk }))) E s)
    (hs : ∀ x, foldedSetIterable iter env x = pure x := by intro _; rfl) :
    wpAny (model prog w) A (eval (.ListComp elt [⟨.Name x px, iter, ifs, 0⟩] scope pos) env) Q E s := by
  rw [eval_ListComp]
  refine wpAny_comprehension_free (use := none) rfl hs hclos hkind hnames (wpAny_mono h (fun xv s₁ h₁ => ?_) fun _ _ e => e)
  obtain ⟨l, items, L, oL, rfl, hl, hlL, hL, tests, fin⟩ := h₁
  have hls : l < s₁.heap.objs.size := by obtain ⟨o, ho, _⟩ := hl; exact Heap.lt_size ho
  have kp : ∀ {h : Heap}, (∀ b o, b ≠ s₁.heap.objs.size → b ≠ L → (s₁.heap.push { cls := .type "list_iterator", data := .fields #[.ref l, .int 0 0] }).get? b = some o → h.get? b = some o) → ∀ b o, b ≠ L → s₁.heap.get? b = some o → h.get? b = some o := fun hk b o hb e =>
    hk b o (fun q => by have := Heap.lt_size e; rw [q] at this; exact Nat.lt_irrefl _ this) hb (Heap.get?_push_of_some _ e)
  have nn : ∀ {b : Addr}, (s₁.heap.push { cls := .type "list_iterator", data := .fields #[.ref l, .int 0 0] }).get? b = none → s₁.heap.get? b = none := fun {b} e => by
    cases q : s₁.heap.get? b with
    | none => rfl
    | some o => rw [Heap.get?_push_of_some _ q] at e; cases e
  refine wpAny_pyIter_list hl ?_
  refine blockZ (RR := fun acc C => compPost (model prog w) A E none Q acc C) (l := l) (items := items) (L := L) (oL := oL) hh (Nat.ne_of_lt hls) (Nat.ne_of_lt (Heap.lt_size hL)) hlL ⟨_, Heap.get?_push_size _ rfl, rfl, rfl⟩ (hl.push _) (Heap.get?_push_of_some _ hL) hcell hkind hx
    (fun C i v s₃ m₃ E' hC hv hn hm hk hS => tests C i v s₃ m₃ E' (Nat.le_trans (by rw [Heap.size_push]; exact Nat.le_succ _) hC) hv hn hm (kp hk) hS) ?_
  intro D C h' tk m' hD hC hDC hn hpl hk hS
  have hLC : L ≠ C := by rintro rfl; rw [Heap.get?_push_of_some _ hL] at hC; cases hC
  refine ⟨m', hn, fun h'' hs'' => fin D h'' tk (nn hD) (hpl.extBut hs''.extBut hDC) (kp fun b o hbI hbL e => hs''.extBut b o (by rintro rfl; rw [hC] at e; cases e) (hk b o hbI hbL e)) ?_⟩
  obtain ⟨sl, q⟩ := hS
  exact ⟨sl, hs''.extBut _ _ hLC q⟩
theorem Frs_sl {sl : Array (Option Value)} (h : Frs [env] [(L, oL)]) : Frs [env] [(L, { oL with slots := sl })] := by
  obtain ⟨a, b, c, d⟩ := h
  exact ⟨a, b, c, d⟩
end
/-- rows with the same addresses have the same numbers -/
theorem refs_num {h : Heap} {c : List (Int × Addr)} (r : RowsAt h c) : ∀ {a b : List (Int × Addr)}, (∀ p ∈ a, p ∈ c) → (∀ p ∈ b, p ∈ c) → refs a = refs b → a.map (·.1) = b.map (·.1)
  | [], [], _, _, _ => rfl
  | [], _ :: _, _, _, e => by cases e
  | _ :: _, [], _, _, e => by cases e
  | p :: a, q :: b, ha, hb, e => by
    simp only [refs, List.map_cons, List.cons.injEq] at e
    obtain ⟨e1, e2⟩ := e
    injection e1 with e1
    rw [List.map_cons, List.map_cons, rows_num r (ha p (.head _)) (hb q (.head _)) e1, refs_num r (fun p hp => ha p (.tail _ hp)) (fun p hp => hb p (.tail _ hp)) e2]
theorem okTwo (a b : List Int) : kqdOk 9 (.list [.list (a.map .int), .list (b.map .int)]) = true := by
  simp [kqdOk]
theorem units_law {env : Env} : (callerA.deeper env).units + 64 < cLine := by simp [Around.deeper, callerA, cLine]
end Mine
end
section
open PySem PySem.W PyProof.Rows PySem.Calls PySem.Spec
open PyProof.Rows.TI (Frs SameUp)
set_option maxRecDepth 100000
namespace Mine
local macro_rules | `(tactic| walk_at "call ref") => `(tactic| refine Stop.out ?_)
local macro_rules | `(tactic| walk_at "pyIter ref") => `(tactic| k_extra "iter")
local macro_rules | `(tactic| walk_at "eval Name") => `(tactic| k_extra "name")
local macro_rules | `(tactic| walk_at "subscriptTail Call Constant ref int") => `(tactic| refine Stop.out ?_)
local macro_rules | `(tactic| walk_at "subscriptTail") => `(tactic| k_extra "tail")
local macro_rules | `(tactic| walk_at "compareOp NotIn int ref") => `(tactic| refine Stop.out ?_)
local macro_rules | `(tactic| walk_at "compareOp NotEq ref ref") => `(tactic| refine Stop.out ?_)
local macro_rules | `(tactic| walk_at "compareOp Eq ref ref") => `(tactic| refine Stop.out ?_)
local macro_rules | `(tactic| walk_at "eval ListComp") => `(tactic| k_extra "comp")
set_option maxHeartbeats 0 in
theorem lawX : PySem.Challenge.rw_ny0066_01.Holds := Mine.hd (by
  w_on
  k_go0
  rename World => w
  rename Shared => s₁
  rename (hd.heap_39 w.params).In _ => KX
  rename Top _ _ _ _ _ _ => TT
  rename Fr _ _ _ _ => F0
  rename News _ _ _ _ => N0
  rename IntsAre _ _ => hI
  rename Heap.IsList _ _ _ => hL
  rename ¬ _ < _ => hcond
  refine wpAny_mono (Q := fun f s' => Stop (f = .ret (.bool true) ∧ (∀ b o, s₁.heap.get? b = some o → s'.heap.get? b = some o) ∧ s'.os = s₁.os ∧ s'.gens = s₁.gens)) (E := fun _ _ => False) ?main ?fin ?no
  case no => exact fun _ _ x => x.elim
  case fin =>
    intro f s' hf
    obtain ⟨rfl, k1, k2, k3⟩ := (Stop.out hf)
    refine ⟨.inl ⟨_, _, _, rfl, raisesW_false ?hn, .bool true, ?hp, unshared_nil⟩, k1, k2, k3.trans (by assumption)⟩
    case hn => wrow_none_raised
    case hp => wrow_post
  case main =>
    rename_i z42y0 z42y1 _ z42y2 _ _ z42y3 z42y4 z42y5 z42y6 z42y7 z42y8 z42y9 z42y10 z42y11 z42y12 z42y13 _ z42y14 z42y15 _ z42y16 z42y17 z42y18 z42y19 z42y20 z42y21 z42y22 _ _ z42y23 z42y24 z42y25 z42y26 z42y27 z42y28 z42y29 z42y30 _ _ _ _ _ _ z42y31
    clear z42y0 z42y1 z42y2 z42y3 z42y4 z42y5 z42y6 z42y7 z42y8 z42y9 z42y10 z42y11 z42y12 z42y13 z42y14 z42y15 z42y16 z42y17 z42y18 z42y19 z42y20 z42y21 z42y22 z42y23 z42y24 z42y25 z42y26 z42y27 z42y28 z42y29 z42y30 z42y31
    rename_i o2 o1 dd2 dd1
    have d2 : o2.data = .cell none := dd2
    have d1 : o1.data = .cell none := dd1
    clear dd1 dd2
    have F1 := Fr_over [(Str.ofString "script", _)] F0 ⟨rfl, trivial⟩
    dsimp only [over] at F1
    clear F0
    generalize bindL _ _ _ = m0 at F1
    dsimp only
    k_with_none
    k_steps
    refine Stop.on ?_
    rename Fr _ _ _ _ => F2
    rename News _ _ _ _ => N2
    rename IntsAre ys _ => hy
    rename_i DN hN tkN hneN
    obtain ⟨ns, hy, hlen, hr, htop⟩ := nums_ok hy
    have N3 : News s₁.heap s₁.heap.objs.size hN [(DN, LCg.lst ys), (s₁.heap.objs.size + 1 + 1, o2), (s₁.heap.objs.size + 1, o1)] := fun p hp => by
      simp only [List.mem_cons, List.not_mem_nil, or_false] at hp
      rcases hp with rfl | rfl | rfl
      · exact N2 _ (.head _)
      · exact N2 _ (.tail _ (.tail _ (.tail _ (.tail _ (.head _)))))
      · exact N2 _ (.tail _ (.tail _ (.tail _ (.tail _ (.tail _ (.head _))))))
    have hn2 : @Ne Nat (s₁.heap.objs.size + 1 + 1) DN := hneN.2.2.2.1
    have hn1 : @Ne Nat (s₁.heap.objs.size + 1) DN := hneN.2.2.2.2
    rename_i z68y0 z68y1 _ z68y2 _ z68y3 z68y4 z68y5 z68y6 z68y7 z68y8 z68y9 z68y10 z68y11 z68y12 z68y13 z68y14 z68y15 z68y16 z68y17 z68y18 z68y19 z68y20 z68y21 z68y22 z68y23 z68y24 z68y25 z68y26 z68y27 z68y28
    clear z68y0 z68y1 z68y2 z68y3 hL hI hcond z68y4 z68y5 z68y6 z68y7 z68y8 z68y9 z68y10 z68y11 z68y12 z68y13 z68y14 z68y15 z68y16 z68y17 z68y18 z68y19 z68y20 z68y21 z68y22 z68y23 z68y24 z68y25 z68y26 z68y27 z68y28 N2 hneN
    refine once_K F2 N3 KX TT (Rm_law.less (by decide)) (News.isList N3 (.head _)) hy (by omega) ?_
    intro DW hW tkW yw cw ws F4 N4 hneW iW pW mW lW
    clear F2 N3
    have w1 : @Ne Nat DN DW := hneW _ (.head _)
    have w2 : @Ne Nat (s₁.heap.objs.size + 1 + 1) DW := hneW _ (.tail _ (.head _))
    have w3 : @Ne Nat (s₁.heap.objs.size + 1) DW := hneW _ (.tail _ (.tail _ (.head _)))
    clear hneW
    rename_i ysN
    k_steps
    refine Stop.on ?_
    rename Fr _ _ _ _ => F5
    rename News _ _ _ _ => N5
    rename IntsAre ys _ => hy2
    have lN := List.length_map (as := ns) (fun k' : Int => k'.fdiv 2)
    rename_i DH0 hH0 tkH0 hneH0
    refine once_K F5 N5 KX TT (Rm_law.less (by decide)) (News.isList N5 (.head _)) hy2 (by omega) ?_
    intro DH hH tkH yh ch hs F6 N6 hneH iH pH mH lH
    have v1 : @Ne Nat DW DH := hneH _ (.tail _ (.head _))
    have v2 : @Ne Nat DN DH := hneH _ (.tail _ (.tail _ (.head _)))
    have v3 : @Ne Nat (s₁.heap.objs.size + 1 + 1) DH := hneH _ (.tail _ (.tail _ (.tail _ (.head _))))
    have v4 : @Ne Nat (s₁.heap.objs.size + 1) DH := hneH _ (.tail _ (.tail _ (.tail _ (.tail _ (.head _)))))
    have N7 : News s₁.heap s₁.heap.objs.size hH [(DH, listOf yh ch), (DW, listOf yw cw), (DN, _), (s₁.heap.objs.size + 1 + 1, o2), (s₁.heap.objs.size + 1, o1)] := fun p hp => by
      rcases List.mem_cons.mp hp with rfl | hp
      · exact N6 _ (.head _)
      · exact N6 p (.tail _ (.tail _ hp))
    rename_i z94y0 z94y1 z94y2 z94y3
    clear hN tkN hW tkW F4 z94y0 z94y1 z94y2 ys hy2 z94y3 DH0 F5 N5 hneH0 lN N6 hneH
    k_with "comp" => refine Stop.out ?_
    k_steps
    refine Stop.on ?_
    rename Fr _ _ _ _ => F8
    rename News _ _ _ _ => N8
    rename_i Dt hx1 hDt hx2 hx3 oc1 dc1 h8 oc2 dc2
    have N9 : News s₁.heap s₁.heap.objs.size h8 [(DH, listOf yh ch), (DW, listOf yw cw), (DN, _), (s₁.heap.objs.size + 1 + 1, oc2), (s₁.heap.objs.size + 1, oc1)] := fun p hp => N8 p (.tail _ hp)
    clear hH0 tkH0 hH tkH Dt hx1 hDt hx2 hx3 N8
    have hr1 : ∀ n ∈ ws, 0 ≤ n ∧ n < 16777216 := fun n hn => hr n ((mW n).mp hn)
    have hr2 : ∀ n ∈ hs, 0 ≤ n ∧ n < 16777215 := fun n hn => by
      obtain ⟨k, hk, rfl⟩ := List.mem_map.mp ((mH n).mp hn)
      have := hr k hk
      rw [Int.fdiv_eq_ediv_of_nonneg _ (by decide)]
      omega
    have lN := List.length_map (as := ns) (fun k' : Int => k'.fdiv 2)
    have hzW : yw.size ≤ sizeLine := by
      have q := IntsAre.length iW
      rw [Array.length_toList] at q
      rw [sizeLine_eq, q]
      omega
    have hzH : yh.size ≤ sizeLine := by
      have q := IntsAre.length iH
      rw [Array.length_toList] at q
      rw [sizeLine_eq, q]
      omega
    k_with "iter" => refine Stop.out ?_
    have hlW : h8.IsList DW yw := News.isList N9 (.tail _ (.head _))
    refine compO (cl := []) (fun _ => true) (fun v its => ∃ n t, v = .int n t ∧ IntsAre its.toList (sixesOf n)) rfl (by with_unfolding_all rfl) (by decide) rfl (by decide) rfl ?_
    k_steps
    refine Stop.on ⟨_, _, rfl, hlW, hzW, ?tests, ?elt, ?fin⟩
    case tests =>
      intro C i v s₃ m₃ E' hC hP hn hm hk
      exact wpAny_pure ⟨rfl, _, _, rfl, fun _ _ e => e⟩
    case elt =>
      intro C i v s₃ m₃ E' hC hP _ hn hm hk
      have FC : Fr s₁.heap C s₃.heap m₃ := ⟨hn, fun b o e => hk b o (F8.keep b o e), Nat.le_trans F8.above (Nat.le_trans (Nat.le_of_lt (by obtain ⟨o, _, _, ho, _⟩ := F8.ns; exact Heap.lt_size ho)) hC)⟩
      obtain ⟨n, hn1', hn2'⟩ := ints_mem iW hP
      obtain ⟨t, rfl⟩ := hn2'
      k_with "name" => k_dflt (first | refine wpAny_Name (wpAny_loadName_local (by rfl) (by rfl) hn hm ?_) | refine LCgL.ld_global FC KX TT (by k_is) ?_)
      refine wpAny_mono (Q := fun y s₄ => Stop _) ?_ (fun _ _ h => h) (fun _ _ h => h)
      k_steps
      refine Stop.on ?_
      refine sixes_call (Wd.keeps ⟨KX, TT⟩ FC.keep) (Rm_law.less (by decide)) (hr1 n hn1').1 (hr1 n hn1').2 ?_
      intro D h' tk' kk ni
      obtain ⟨q1, q2, c, q3, q4⟩ := ni
      exact Stop.on ⟨⟨D, q2, rfl, q1, ⟨_, q3, rfl, _, rfl⟩, n, t, rfl, q4⟩, _, _, rfl, kk⟩
    case fin =>
      intro D1 h10 tk10 y1 hD1 hpl1 hF1 hk1
      rw [List.filter_eq_self.mpr (fun _ _ => rfl)] at hF1
      obtain ⟨es, e1, e2, e3, e4⟩ := rows_of iW (fun n hn => (hr1 n hn).1) hF1
      obtain ⟨c1, hpl1⟩ := hpl1
      have F10 := Fr_keeps F8 hk1
      have N10 := News_add F8 (News_keeps N9 hk1) hD1 hpl1
      have u1 : ∀ p ∈ [(DH, listOf yh ch), (DW, listOf yw cw), (DN, LCg.lst ys), (s₁.heap.objs.size + 1 + 1, oc2), (s₁.heap.objs.size + 1, oc1)], p.1 ≠ D1 := fun p hp e => by
        have := (N9 p hp).1
        rw [e, hD1] at this; cases this
      have u2 : ∀ p ∈ es, h8.get? p.2 = none := e4
      have hlH : h10.IsList DH yh := News.isList N10 (.tail _ (.head _))
      have F8' := F8
      clear hF1 F8 N9 hk1 hD1 e4 hlW
      k_with "name" => fail
      k_with "call" => fail
      k_steps
      refine Stop.on ?_
      refine compO (cl := []) (fun _ => true) (fun v its => ∃ n t, v = .int n t ∧ IntsAre its.toList (sixesOf n)) rfl (by with_unfolding_all rfl) (by decide) rfl (by decide) rfl ?_
      k_steps
      refine Stop.on ⟨_, _, rfl, hlH, hzH, ?tests, ?elt, ?fin⟩
      case tests =>
        intro C i v s₃ m₃ E' hC hP hn hm hk
        exact wpAny_pure ⟨rfl, _, _, rfl, fun _ _ e => e⟩
      case elt =>
        intro C i v s₃ m₃ E' hC hP _ hn hm hk
        have FC : Fr s₁.heap C s₃.heap m₃ := ⟨hn, fun b o e => hk b o (F10.keep b o e), Nat.le_trans F10.above (Nat.le_trans (Nat.le_of_lt (by obtain ⟨o, _, _, ho, _⟩ := F10.ns; exact Heap.lt_size ho)) hC)⟩
        obtain ⟨n, hn1', hn2'⟩ := ints_mem iH hP
        obtain ⟨t, rfl⟩ := hn2'
        k_with "name" => k_dflt (first | refine wpAny_Name (wpAny_loadName_local (by rfl) (by rfl) hn hm ?_) | refine LCgL.ld_global FC KX TT (by k_is) ?_)
        refine wpAny_mono (Q := fun y s₄ => Stop _) ?_ (fun _ _ h => h) (fun _ _ h => h)
        k_steps
        refine Stop.on ?_
        refine sixes_call (Wd.keeps ⟨KX, TT⟩ FC.keep) (Rm_law.less (by decide)) (hr2 n hn1').1 (by have := (hr2 n hn1').2; omega) ?_
        intro D h' tk' kk ni
        obtain ⟨q1, q2, c, q3, q4⟩ := ni
        exact Stop.on ⟨⟨D, q2, rfl, q1, ⟨_, q3, rfl, _, rfl⟩, n, t, rfl, q4⟩, _, _, rfl, kk⟩
      case fin =>
        intro D2 h11 tk11 y2 hD2 hpl2 hF2 hk2
        rw [List.filter_eq_self.mpr (fun _ _ => rfl)] at hF2
        obtain ⟨as, a1, a2, a3, a4⟩ := rows_of iH (fun n hn => (hr2 n hn).1) hF2
        obtain ⟨c2, hpl2⟩ := hpl2
        have F11 := Fr_keeps F10 hk2
        have N11 := News_add F10 (News_keeps N10 hk2) hD2 hpl2
        have e5 : RowsAt h11 es := RowsAt.keeps e3 hk2
        k_with "name" => fail
        k_steps
        refine Stop.on ?_
        have hwt : (16777215 : Int) ∈ ws := (mW _).mpr htop
        refine sld_K F11 N11 KX TT (Rm_law.less (by decide)) rfl rfl rfl (N11 _ (.tail _ (.head _))).1 (N11 _ (.head _)).1 e1 a1 e5 a3 (by rw [e2]; exact pW) (by rw [a2]; exact pH) ?_ ?_ ?_ ?_ ?_
        · intro q
          rw [q] at a2
          have : ((16777215 : Int).fdiv 2) ∈ hs := (mH _).mpr (List.mem_map_of_mem htop)
          rw [← a2] at this
          cases this
        · intro a ha
          rw [← e2] at hwt
          obtain ⟨e, he, q⟩ := List.mem_map.mp hwt
          refine ⟨e, he, ?_⟩
          have := (hr2 a.1 (by rw [← a2]; exact List.mem_map_of_mem ha)).2
          omega
        · have : es.length = ws.length := by rw [← e2, List.length_map]
          omega
        · have : as.length = hs.length := by rw [← a2, List.length_map]
          omega
        intro Tt M U h12 tk12 cM cU F12 N12 k12 n1 n2 n3
        have hLs : ∀ {h : Heap} {m : Str → Option Value} {b : Addr}, Fr s₁.heap s₁.heap.objs.size h m → h.get? b = none → b ≠ s₁.heap.objs.size ∧ s₁.heap.get? b = none := fun {h m b} F hb => by
          obtain ⟨o, _, _, ho, _⟩ := F.ns
          refine ⟨fun q => (by rw [q, ho] at hb; cases hb), ?_⟩
          cases q : s₁.heap.get? b with
          | none => rfl
          | some o' => rw [F.keep _ _ q] at hb; cases hb
        have b1 : ∀ p ∈ es, p.2 ≠ s₁.heap.objs.size ∧ s₁.heap.get? p.2 = none := fun p hp => hLs F8' (u2 p hp)
        have b2 : ∀ p ∈ as, p.2 ≠ s₁.heap.objs.size ∧ s₁.heap.get? p.2 = none := fun p hp => hLs F10 (a4 p hp)
        have r12 : RowsAt h12 (es ++ as) := fun p hp => by
          obtain ⟨h0, vs, ⟨o, ho, q⟩, i⟩ := RowsAt.app e5 a3 p hp
          refine ⟨h0, vs, ⟨o, k12 _ _ ?_ ho, q⟩, i⟩
          rcases List.mem_append.mp hp with z | z
          · exact (b1 p z).1
          · exact (b2 p z).1
        obtain ⟨ros, nr1, nr2⟩ := rows_led (L := s₁.heap.objs.size) (h₀ := s₁.heap) r12 (fun p hp => by
          rcases List.mem_append.mp hp with z | z
          · exact b1 p z
          · exact b2 p z)
        have N13 : News s₁.heap s₁.heap.objs.size h12 ((Tt, { cls := .type "tuple", data := .seq #[.ref M, .ref U] }) :: (M, listOf (refs (sld es as).1).toArray cM) :: (U, listOf (refs (sld es as).2).toArray cU) :: (DH, listOf yh ch) :: (DW, listOf yw cw) :: (DN, LCg.lst ys) :: (s₁.heap.objs.size + 1 + 1, oc2) :: (s₁.heap.objs.size + 1, oc1) :: ros) := fun p hp => by
          rcases List.mem_cons.mp hp with rfl | hp
          · exact N12 _ (.head _)
          rcases List.mem_cons.mp hp with rfl | hp
          · exact N12 _ (.tail _ (.head _))
          rcases List.mem_cons.mp hp with rfl | hp
          · exact N12 _ (.tail _ (.tail _ (.head _)))
          rcases List.mem_cons.mp hp with rfl | hp
          · exact N12 _ (.tail _ (.tail _ (.tail _ (.tail _ (.tail _ (.head _))))))
          rcases List.mem_cons.mp hp with rfl | hp
          · exact N12 _ (.tail _ (.tail _ (.tail _ (.tail _ (.tail _ (.tail _ (.head _)))))))
          rcases List.mem_cons.mp hp with rfl | hp
          · exact N12 _ (.tail _ (.tail _ (.tail _ (.tail _ (.tail _ (.tail _ (.tail _ (.head _))))))))
          rcases List.mem_cons.mp hp with rfl | hp
          · exact N12 _ (.tail _ (.tail _ (.tail _ (.tail _ (.tail _ (.tail _ (.tail _ (.tail _ (.head _)))))))))
          rcases List.mem_cons.mp hp with rfl | hp
          · exact N12 _ (.tail _ (.tail _ (.tail _ (.tail _ (.tail _ (.tail _ (.tail _ (.tail _ (.tail _ (.head _))))))))))
          exact nr1 p hp
        clear hn2 hn1 w1 w2 w3 v1 v2 v3 v4 h8 tk D1 h10 tk10 y1 e1 e3 c1 hpl1 F10 N10 u1 u2 hlH F8' D2 y2 hD2 hF2 hk2 a1 a3 a4 c2 hpl2 F11 N11 e5 hwt N12 k12 n1 n2 n3 hLs b1 b2 r12 nr1
        k_steps
        refine Stop.on ?_
        rename Fr _ _ _ _ => F14
        rename News _ _ _ _ => N14
        rename_i h14
        have hlW : h14.IsList DW yw := News.isList N14 (.tail _ (.tail _ (.tail _ (.tail _ (.head _)))))
        have hlH : h14.IsList DH yh := News.isList N14 (.tail _ (.tail _ (.tail _ (.head _))))
        refine compF (cl := [(Str.ofString "halves", s₁.heap.objs.size + 1 + 1)]) (notIn hs) (fun v y => y = v) rfl (by with_unfolding_all rfl) (by decide) rfl (by decide) rfl ?_
        k_steps
        refine Stop.on ⟨_, _, rfl, hlW, hzW, ?tests, ?elt, ?fin⟩
        case tests =>
          intro C i v s₃ m₃ E' hC hP hn hm hk
          obtain ⟨n, hn1', hn2'⟩ := ints_mem iW hP
          obtain ⟨t, rfl⟩ := hn2'
          have hcell : s₃.heap.IsCell (s₁.heap.objs.size + 1 + 1) (some (.ref DH)) := ⟨_, hk _ _ (N14 _ (.tail _ (.tail _ (.tail _ (.tail _ (.tail _ (.tail _ (.head _)))))))).1, dc2⟩
          have hlH3 : s₃.heap.IsList DH yh := by obtain ⟨o, ho, q⟩ := hlH; exact ⟨o, hk _ _ ho, q⟩
          refine wpAny_tests_one ?_
          k_with "name" => k_dflt (first | refine wpAny_Name (wpAny_loadName_local (by rfl) (by rfl) hn hm ?_) | refine wpAny_Name (wpAny_loadName_cell (by rfl) (by rfl) (by rfl) hcell ?_))
          k_steps
          refine Stop.on ?_
          refine notin_list_ints (vs := yh.toList) hlH3 iH ?_
          refine wpAny_truthy_bool ⟨rfl, _, _, rfl, fun _ _ e => e⟩
        case elt =>
          intro C i v s₃ m₃ E' hC hP _ hn hm hk
          exact wpAny_Name (wpAny_loadName_local (by rfl) (by rfl) hn hm ⟨rfl, _, _, rfl, fun _ _ e => e⟩)
        case fin =>
          intro D3 h15 tk15 y3 hD3 hpl3 hF3 hk3
          have i3 := ints_notIn (hs := hs) iW
          rw [← paired_same hF3] at i3
          obtain ⟨c3, hpl3⟩ := hpl3
          have F15 := Fr_keeps F14 hk3
          have N15 := News_add F14 (News_keeps N14 hk3) hD3 hpl3
          have hlW2 : h15.IsList DW yw := News.isList N15 (.tail _ (.tail _ (.tail _ (.tail _ (.tail _ (.head _))))))
          have hlH2 : h15.IsList DH yh := News.isList N15 (.tail _ (.tail _ (.tail _ (.tail _ (.head _)))))
          clear F14 N14 hk3 hF3 hD3 hlW hlH
          k_with "name" => fail
          k_steps
          refine Stop.on ?_
          refine compF (cl := [(Str.ofString "whole", s₁.heap.objs.size + 1)]) (notIn ws) (fun v y => y = v) rfl (by with_unfolding_all rfl) (by decide) rfl (by decide) rfl ?_
          k_steps
          refine Stop.on ⟨_, _, rfl, hlH2, hzH, ?tests, ?elt, ?fin⟩
          case tests =>
            intro C i v s₃ m₃ E' hC hP hn hm hk
            obtain ⟨n, hn1', hn2'⟩ := ints_mem iH hP
            obtain ⟨t, rfl⟩ := hn2'
            have hcell : s₃.heap.IsCell (s₁.heap.objs.size + 1) (some (.ref DW)) := ⟨_, hk _ _ (N15 _ (.tail _ (.tail _ (.tail _ (.tail _ (.tail _ (.tail _ (.tail _ (.tail _ (.head _)))))))))).1, dc1⟩
            have hlW3 : s₃.heap.IsList DW yw := by obtain ⟨o, ho, q⟩ := hlW2; exact ⟨o, hk _ _ ho, q⟩
            refine wpAny_tests_one ?_
            k_with "name" => k_dflt (first | refine wpAny_Name (wpAny_loadName_local (by rfl) (by rfl) hn hm ?_) | refine wpAny_Name (wpAny_loadName_cell (by rfl) (by rfl) (by rfl) hcell ?_))
            k_steps
            refine Stop.on ?_
            refine notin_list_ints (vs := yw.toList) hlW3 iW ?_
            refine wpAny_truthy_bool ⟨rfl, _, _, rfl, fun _ _ e => e⟩
          case elt =>
            intro C i v s₃ m₃ E' hC hP _ hn hm hk
            exact wpAny_Name (wpAny_loadName_local (by rfl) (by rfl) hn hm ⟨rfl, _, _, rfl, fun _ _ e => e⟩)
          case fin =>
            intro D4 h16 tk16 y4 hD4 hpl4 hF4 hk4
            have i4 := ints_notIn (hs := ws) iH
            rw [← paired_same hF4] at i4
            obtain ⟨c4, hpl4⟩ := hpl4
            have F16 := Fr_keeps F15 hk4
            have N16 := News_add F15 (News_keeps N15 hk4) hD4 hpl4
            clear F15 N15 hk4 hF4 hD4 hlW2 hlH2
            k_with "name" => fail
            k_steps
            refine Stop.on ?_
            rename Fr _ _ _ _ => F17
            rename News _ _ _ _ => N17
            rename_i Dd hxA lDd h17
            have rows17 : RowsAt h17 (es ++ as) := nr2 h17 fun p hp => N17 p (.tail _ (.tail _ (.tail _ (.tail _ (.tail _ (.tail _ (.tail _ (.tail _ (.tail _ (.tail _ (.tail _ hp)))))))))))
            have hT : h17.IsTuple Tt #[.ref M, .ref U] := ⟨_, (N17 _ (.tail _ (.tail _ (.tail _ (.head _))))).1, rfl, _, rfl⟩
            have hM : h17.IsList M (refs (sld es as).1).toArray := News.isList N17 (.tail _ (.tail _ (.tail _ (.tail _ (.head _)))))
            have hU : h17.IsList U (refs (sld es as).2).toArray := News.isList N17 (.tail _ (.tail _ (.tail _ (.tail _ (.tail _ (.head _))))))
            have hsld := sld_fst _ es as (Nat.le_refl _) (by rw [e2]; exact pW) (by rw [a2]; exact pH)
            have rM : RowsAt h17 (sld es as).1 := fun p hp => rows17 p (by rw [hsld.1] at hp; exact List.mem_append_left _ (List.mem_filter.mp hp).1)
            have rU : RowsAt h17 (sld es as).2 := fun p hp => rows17 p (by rw [hsld.2] at hp; exact List.mem_append_right _ (List.mem_filter.mp hp).1)
            refine compOT (cl := []) (fun _ => true) (fun v its => ∃ ps : List (Int × Addr), (v = .ref M ∧ ps = (sld es as).1 ∨ v = .ref U ∧ ps = (sld es as).2) ∧ IntsAre its.toList (ps.map (·.1))) rfl (by with_unfolding_all rfl) (by decide) rfl (by decide) rfl ?_
            k_steps
            refine Stop.on ⟨_, _, rfl, hT, by simp [sizeLine], ?tests, ?elt, ?fin⟩
            case tests =>
              intro C i v s₃ m₃ E' hC hP hn hm hk
              exact wpAny_pure ⟨rfl, _, _, rfl, fun _ _ e => e⟩
            case elt =>
              intro C i v s₃ m₃ E' hC hP _ hn hm hk
              obtain ⟨B, ps, hB, rfl, hlB, rB⟩ : ∃ B ps, ((Value.ref B = .ref M ∧ ps = (sld es as).1) ∨ (Value.ref B = .ref U ∧ ps = (sld es as).2)) ∧ v = .ref B ∧ h17.IsList B (refs ps).toArray ∧ RowsAt h17 ps := by
                match i, hP with
                | 0, hP => simp at hP; exact ⟨M, _, .inl ⟨rfl, rfl⟩, hP.symm, hM, rM⟩
                | 1, hP => simp at hP; exact ⟨U, _, .inr ⟨rfl, rfl⟩, hP.symm, hU, rU⟩
                | i + 2, hP => simp at hP
              have hlB3 : s₃.heap.IsList B (refs ps).toArray := by obtain ⟨o, ho, q⟩ := hlB; exact ⟨o, hk _ _ ho, q⟩
              have rB3 : RowsAt s₃.heap ps := RowsAt.keeps rB hk
              have hzB : (refs ps).toArray.size ≤ sizeLine := by
                rw [sizeLine_eq, List.size_toArray, refs, List.length_map]
                have q1 : es.length = ws.length := by rw [← e2, List.length_map]
                have q2 : as.length = hs.length := by rw [← a2, List.length_map]
                rcases hB with ⟨_, rfl⟩ | ⟨_, rfl⟩
                · rw [hsld.1]; exact Nat.le_trans (List.length_filter_le _ _) (by omega)
                · rw [hsld.2]; exact Nat.le_trans (List.length_filter_le _ _) (by omega)
              have hpr : ∀ p ∈ ps, p.1 < 16777216 := fun p hp => by
                rcases hB with ⟨_, rfl⟩ | ⟨_, rfl⟩
                · rw [hsld.1] at hp; exact (hr1 p.1 (by rw [← e2]; exact List.mem_map_of_mem (List.mem_filter.mp hp).1)).2
                · rw [hsld.2] at hp; have := (hr2 p.1 (by rw [← a2]; exact List.mem_map_of_mem (List.mem_filter.mp hp).1)).2; omega
              refine compF (cl := []) (fun _ => true) (fun v y => ∃ n t, y = .int n t ∧ ∀ p ∈ ps, v = .ref p.2 → p.1 = n) rfl (by with_unfolding_all rfl) (by decide) rfl (by decide) rfl ?_
              refine wpAny_Name (wpAny_loadName_local (by rfl) (by rfl) hn hm ?_)
              refine Stop.on ⟨_, _, rfl, hlB3, hzB, ?tests2, ?elt2, ?fin2⟩
              case tests2 =>
                intro C2 i2 v2 s₄ m₄ E2 hC2 hP2 hn2 hm2 hk2
                exact wpAny_pure ⟨rfl, _, _, rfl, fun _ _ e => e⟩
              case elt2 =>
                intro C2 i2 v2 s₄ m₄ E2 hC2 hP2 _ hn2 hm2 hk2
                obtain ⟨q, hq, rfl⟩ : ∃ q ∈ ps, v2 = .ref q.2 := by
                  rw [List.getElem?_toArray] at hP2
                  obtain ⟨q, hq, e⟩ := List.mem_map.mp (List.mem_of_getElem? hP2)
                  exact ⟨q, hq, e.symm⟩
                obtain ⟨q0, vs4, hl4, i4'⟩ := RowsAt.keeps rB3 hk2 q hq
                have FC : Fr s₁.heap C2 s₄.heap m₄ := ⟨hn2, fun b o e => hk2 b o (hk b o (F17.keep b o e)), Nat.le_trans F17.above (Nat.le_trans (Nat.le_of_lt (by obtain ⟨o, _, _, ho, _⟩ := F17.ns; exact Heap.lt_size (hk _ _ ho))) hC2)⟩
                k_with "name" => k_dflt (first | refine wpAny_Name (wpAny_loadName_local (by rfl) (by rfl) hn2 hm2 ?_) | refine LCgL.ld_global FC KX TT (by k_is) ?_)
                refine wpAny_mono (Q := fun y s₄ => Stop _) ?_ (fun _ _ h => h) (fun _ _ h => h)
                k_steps
                refine Stop.on ?_
                refine read_call (vs := vs4.toList) (ds := sixesOf q.1) (Wd.keeps ⟨KX, TT⟩ FC.keep) (Rm_law.less (by decide)) hl4 i4' (sixes_range q0 (hpr q hq)) (by simp [sixesOf]) (by simp [sixesOf]) ?_
                intro D7 D8 h7 tk7 t7 t8 t9 c7 c8 k7 g7 g8 g9 g10
                refine wpAny_Constant_int ?_
                refine item_made (items := #[.int (val64 (sixesOf q.1)) t7, .ref D8]) ⟨_, g9, rfl, _, rfl⟩ (by decide) (by decide) rfl ?_
                refine Stop.on ⟨⟨_, _, rfl, fun p hp e => ?_⟩, _, _, rfl, k7⟩
                injection e with e
                rw [val_sixes q0 (hpr q hq)]
                exact rows_num rB hp hq e.symm
              case fin2 =>
                intro D6 h6 tk6 y6 hD6 hpl6 hF6 hk6
                obtain ⟨c6, hpl6⟩ := hpl6
                rw [List.filter_eq_self.mpr (fun _ _ => rfl)] at hF6
                exact ⟨⟨D6, y6, rfl, hD6, ⟨_, hpl6, rfl, _, rfl⟩, ps, hB, paired_nums (fun q hq => hq) hF6⟩, _, _, rfl, hk6⟩
            case fin =>
              intro D5 h18 tk18 y5 hD5 hpl5 hF5 hk5
              dsimp only at hD5 hF5 hk5 ⊢
              rw [List.filter_eq_self.mpr (fun _ _ => rfl)] at hF5
              obtain ⟨c5, hpl5⟩ := hpl5
              have F18 := Fr_keeps F17 hk5
              have N18 := News_add F17 (News_keeps N17 hk5) hD5 hpl5
              obtain ⟨p1, p2, P1, P2, ey5, hl1, hl2, j1, j2⟩ : ∃ p1 p2 P1 P2, y5.toList = [.ref p1, .ref p2] ∧ h18.IsList p1 P1 ∧ h18.IsList p2 P2 ∧ IntsAre P1.toList (ws.filter fun n => !hs.any (· == n)) ∧ IntsAre P2.toList (hs.filter fun n => !ws.any (· == n)) := by
                have E1 : (sld es as).1.map (·.1) = ws.filter fun n => !hs.any (· == n) := by
                  rw [hsld.1, ← e2, ← a2, List.filter_map]; rfl
                have E2 : (sld es as).2.map (·.1) = hs.filter fun n => !ws.any (· == n) := by
                  rw [hsld.2, ← e2, ← a2, List.filter_map]; rfl
                have EQ : M = U → (sld es as).1.map (·.1) = (sld es as).2.map (·.1) := fun q => by
                  subst q
                  refine refs_num rows17 (fun p hp => by rw [hsld.1] at hp; exact List.mem_append_left _ (List.mem_filter.mp hp).1) (fun p hp => by rw [hsld.2] at hp; exact List.mem_append_right _ (List.mem_filter.mp hp).1) ?_
                  obtain ⟨o, ho, _, n1, q1⟩ := hM
                  obtain ⟨o', ho', _, n2, q2⟩ := hU
                  rw [ho] at ho'; injection ho' with ho'
                  rw [← ho', q1] at q2
                  injection q2 with q2 _
                  simpa using q2
                generalize y5.toList = z5 at hF5
                cases hF5 with | cons x1 t1 => cases t1 with | cons x2 t2 => cases t2 with | nil =>
                obtain ⟨p1, P1, rfl, _, l1, ps1, d1, i1⟩ := x1
                obtain ⟨p2, P2, rfl, _, l2, ps2, d2, i2⟩ := x2
                refine ⟨p1, p2, P1, P2, rfl, l1, l2, ?_, ?_⟩
                · rw [← E1]
                  rcases d1 with ⟨_, rfl⟩ | ⟨q, rfl⟩
                  · exact i1
                  · injection q with q; rw [EQ q]; exact i1
                · rw [← E2]
                  rcases d2 with ⟨q, rfl⟩ | ⟨_, rfl⟩
                  · injection q with q; rw [← EQ q.symm]; exact i2
                  · exact i2
              k_with "name" => fail
              k_with "iter" => fail
              rename_i z414y0
              clear htop iW pW mW lW iH pH mH lH hr1 hr2 lN hzW hzH e2 h11 tk11 a2 h12 tk12 nr2 h14 z414y0 h15 tk15 hpl3 h16 tk16 hpl4 hxA lDd h17 F17 N17 tk rows17 hT hM hU hsld rM rU hD5 hF5 hk5 hpl5
              k_steps
              refine Stop.on ?_
              have rdA : Rd h18 (.ref D5) (.list [.list ((ws.filter fun n => !hs.any (· == n)).map .int), .list ((hs.filter fun n => !ws.any (· == n)).map .int)]) :=
                .list (N18 _ (.head _)).1 (by rw [ey5]; exact .cons (.listI hl1 (.ints j1)) (.cons (.listI hl2 (.ints j2)) .nil))
              have rdB : Rd h18 (.ref Dd) (.list [.list ((ws.filter fun n => !hs.any (· == n)).map .int), .list ((hs.filter fun n => !ws.any (· == n)).map .int)]) :=
                .list (N18 _ (.tail _ (.head _))).1 (.cons (.list (N18 _ (.tail _ (.tail _ (.tail _ (.head _))))).1 (.ints i3)) (.cons (.list (N18 _ (.tail _ (.tail _ (.head _)))).1 (.ints i4)) .nil))
              refine neD_no rdA rdB (okTwo _ _) units_law ?_
              have N19 : News s₁.heap s₁.heap.objs.size h18 [(DN, LCg.lst ys)] := fun p hp => N18 p (by
                rw [List.mem_singleton.mp hp]
                exact .tail _ (.tail _ (.tail _ (.tail _ (.tail _ (.tail _ (.tail _ (.tail _ (.tail _ (.head _))))))))))
              clear yw cw ws yh ch hs es as M U cM cU ros D3 y3 i3 c3 D4 y4 i4 c4 D5 y5 c5 N18 p1 p2 P1 P2 ey5 hl1 hl2 j1 j2 rdA rdB
              k_steps
              refine Stop.on ?_
              obtain ⟨oL, esL, epL, hL, hdL, _⟩ := id F18.ns
              have hlN : h18.IsList DN ys.toArray := News.isList N19 (.head _)
              have hNL : DN ≠ s₁.heap.objs.size := (N19 _ (.head _)).2.1
              refine compZ (cl := []) rfl (by with_unfolding_all rfl) (by decide) rfl (by decide) rfl ?_
              k_steps
              refine Stop.on ⟨_, _, s₁.heap.objs.size, oL, rfl, hlN, hNL, hL, ?tests, ?fin⟩
              case tests =>
                intro C i v s₃ m₃ E' hC hP hn hm hk hS
                obtain ⟨n, hn1, t, rfl⟩ := ints_mem (vs := ys.toArray) hy hP
                obtain ⟨sl, hS⟩ := hS
                have hb : ∀ b o, s₁.heap.get? b = some o → b ≠ s₁.heap.objs.size := fun b o e q => by
                  have := Heap.lt_size e; rw [q] at this; exact Nat.lt_irrefl _ this
                have FC : Fr s₁.heap C s₃.heap m₃ := ⟨hn, fun b o e => hk b o (hb b o e) (F18.keep b o e), Nat.le_trans F18.above (Nat.le_trans (Nat.le_of_lt (Heap.lt_size hL)) hC)⟩
                refine wpAny_tests_one ?_
                k_with "name" => k_dflt (first | refine wpAny_Name (wpAny_loadName_local (by rfl) (by rfl) hn hm ?_) | refine LCgL.ld_global FC KX TT (by k_is) ?_)
                refine wpAny_mono (Q := fun y s₄ => Stop _) ?_ (fun _ _ h => h) (fun _ _ h => h)
                k_steps
                refine Stop.on ?_
                refine right_call (frs := [(s₁.heap.objs.size, { oL with slots := sl })]) (Wd.keeps ⟨KX, TT⟩ fun b o e => hideAll_get _ (hk b o (hb b o e) (F18.keep b o e)) (fun q => hb b o e (by simpa using q))) Rm_law rfl ⟨(show ScopeKind.function ≠ ScopeKind.module by decide), rfl, ⟨esL, epL, hdL⟩, trivial⟩ (fun p hp => by rw [List.mem_singleton.mp hp]; exact hS) (hr n hn1).1 (hr n hn1).2 ?_
                intro h7 tk7 frs7 SU hF7 hk7
                obtain ⟨sl7, rfl⟩ := same_one SU
                have hL7 := hF7 _ (.head _)
                have kk7 : ∀ b o, b ≠ s₁.heap.objs.size → s₃.heap.get? b = some o → h7.get? b = some o := fun b o hb' e => hk7 b o (fun q => hb' (by simpa using q)) e
                k_steps
                exact Stop.on ⟨rfl, _, _, rfl, kk7, sl7, hL7⟩
              case fin =>
                intro D h' tk hD hpl hk hS
                obtain ⟨sl, hS⟩ := hS
                obtain ⟨cD, hpl⟩ := hpl
                have F20 := Fr_up (s := { s₁ with heap := h18 }) F18 hL hS hk
                have N20 : News s₁.heap s₁.heap.objs.size h' [(D, listOf #[] cD)] := News_add F18 News.nil hD hpl
                rename_i z459y0
                clear ys ns hy hlen hr F18 N19 hL z459y0 hlN hNL hD hk sl hS hpl
                dsimp only
                k_with "name" => fail
                k_steps
                refine Stop.on ?_
                rename Fr _ _ _ _ => F21
                rename News _ _ _ _ => N21
                refine eqD_yes (d := .list []) (.list (N21 _ (.tail _ (.head _))).1 .nil) (.list (N21 _ (.head _)).1 .nil) rfl units_law ?_
                exact Stop.on ⟨rfl, F21.keep, rfl, rfl⟩)
end Mine
end
theorem PySem.Challenge.cw_ny0066_01_holds : PySem.Challenge.rw_ny0066_01.Holds :=
  Mine.lawX
