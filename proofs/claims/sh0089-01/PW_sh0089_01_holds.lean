import PyProof.Rows.All
import Wide.All
import OpenK.AllK
import Wide.FinOn
import PySem.Challenge.RW_sh0089_01
open PySem PySem.W PyProof.Rows
set_option Elab.async false
set_option maxRecDepth 100000
set_option maxHeartbeats 8000000
set_option rowWalk.seconds 0
namespace Mine
section
open_top hd for PySem.Challenge.rw_sh0089_01
end
end Mine
namespace Mine
section
open PySem.Calls

/-- a def's call that touches nothing that stood before it: the callee starts with an empty ledger over the whole heap -/
theorem enter0 {prog : Program} {w : World} {s : Shared} {base h₀ : Heap} {L a : Addr} {m mg mb : Str → Option Value} {cn : Str} {cs : Scope} {ccd : Value} {K : Frag} {p : Program} {loose : List Str} {mean : ExcName → Option Value}
    {Q E : Value → Shared → Prop} {name qual : Str} {params : Arguments} {body : List Stmt} {scope : Scope} {dV kV doc pm cdv ct oc : Value} {an od : Option Addr} {osl : Array (Option Value)} {f : Addr} {vs : List Value} {binds : List (Str × Value)}
    (B : Below callerA base [] h₀) (F : Fr h₀ L s.heap m) (X₀ : K.In h₀) (T : Top p loose mean mg mb h₀) (hck : cs.kind = .function)
    (ho : K.lookup f = some ⟨oc, od, .func (fnOf name qual params body scope dV kV doc pm an cdv ct), osl⟩) (hcd : codeIn K cdv qual = true)
    (hbind : BindsTo s (fnOf name qual params body scope dV kV doc pm an cdv ct) ⟨vs, []⟩ binds) (hloc : ∀ y ∈ binds, scope.names.lookup y.1 = some .local)
    (h : ∀ g L' h₁ tk, (∀ b o, s.heap.get? b = some o → g.get? b = some o) → Fr h₀ L g m → Fr g L' h₁ (fun y => binds.reverse.lookup y) → News g L' h₁ [] → Below (callerA.deeper (envOf cn cs L a ccd)) base [envOf cn cs L a ccd] g → K.In g → Top p loose mean mg mb g →
      wpAny (model prog w) ((callerA.deeper (envOf cn cs L a ccd)).deeper (envOf qual scope L' f cdv)) (execs body (envOf qual scope L' f cdv))
        (fun fl s' => LeaveK h₀ L m g (fun r s'' => match r with | .ok (.ret v) => Q v s'' | .ok _ => False | .error e => E e s'') (match fl with | .ret v => v | _ => .none) s')
        (fun e s' => wpAny (model prog w) ((callerA.deeper (envOf cn cs L a ccd)).deeper (envOf qual scope L' f cdv)) (leaving (envOf qual scope L' f cdv) e) (fun _ s'' => E e s'') (fun e' s'' => E e' s'') s')
        { s with heap := h₁, toks := tk })
    (hco : scope.isCoroutine = false) (hgen : scope.isGenerator = false) (hk : scope.kind = .function)
    (hcell : ∀ x ∈ scope.names, x.2 ≠ .cell) :
    wpAny (model prog w) (callerA.deeper (envOf cn cs L a ccd)) (call (.ref f) vs) Q E s := by
  have X : K.In s.heap := X₀.keeps F.keep
  refine wpAny_call ?_
  refine codeAny_call_def (fd := fnOf name qual params body scope dV kV doc pm an cdv ct) (body := body) (binds := binds) (by show 302 < recursionLimit; decide) (X _ _ ho) rfl (T.nolimit.keeps F.keep) (codeRec_of X hcd) rfl hbind hcell hloc (fun h₁ hns hk₁ => ?_) hco hgen hk
  refine wpAny_mono (h s.heap s.heap.objs.size h₁ _ (fun _ _ e => e) F ⟨hns, hk₁, Nat.le_refl _⟩ News.nil (B.push (name := cn) (scope := cs) (a := a) (cd := ccd) F hck) X (T.keeps F.keep)) (fun fl s' hl => ?_) fun _ _ y => y
  obtain ⟨L', m', news', F', N', k⟩ := hl
  have N₀ : News h₀ L s'.heap news' := by
    intro q hq
    refine ⟨(N' q hq).1, fun e => ?_, ?_⟩
    · have h2 := (N' q hq).2.2
      obtain ⟨oL, es, ep, hL, _⟩ := F.ns
      rw [e, hL] at h2
      cases h2
    · cases e : h₀.get? q.1 with
      | none => rfl
      | some o =>
        have h2 := (N' q hq).2.2
        rw [F.keep _ _ e] at h2
        cases h2
  exact k (F.after F'.keep) N₀

/-- what a call of the def at f hands back, from the law's own frame, whatever the ledger holds -/
def Cl (w : World) (mean : ExcName → Option Value) (mg mb : Str → Option Value) (f : Addr) (vs : List Value) (R : Tok → Value) : Prop :=
  ∀ (cn : Str) (cs : Scope) (a : Addr) (ccd : Value) (base h₀ : Heap) (L : Addr) (m : Str → Option Value) (s : Shared) (Q E : Value → Shared → Prop),
    Below callerA base [] h₀ → Fr h₀ L s.heap m → (hd.heap_39 w.params).In h₀ → Top hd.view_39 (looseW hd.view_39 [Str.ofString "_filemode_table"]) mean mg mb h₀ → cs.kind = .function →
    (∀ (t : Tok) (h' : Heap) (tk' : Nat), Fr h₀ L h' m → (∀ b o, s.heap.get? b = some o → h'.get? b = some o) → Q (R t) { s with heap := h', toks := tk' }) →
    wpAny (model PySem.Challenge.rw_sh0089_01.row.prog w) (callerA.deeper (envOf cn cs L a ccd)) (call (.ref f) vs) Q E s
theorem Cl.news {w mean mg mb f vs R} (C : Cl w mean mg mb f vs R) {cn : Str} {cs : Scope} {a : Addr} {ccd : Value} {base h₀ : Heap} {L : Addr} {m : Str → Option Value} {s : Shared} {Q E : Value → Shared → Prop} {news : List (Addr × Obj)}
    (hB : Below callerA base [] h₀) (hF : Fr h₀ L s.heap m) (hX : (hd.heap_39 w.params).In h₀) (hT : Top hd.view_39 (looseW hd.view_39 [Str.ofString "_filemode_table"]) mean mg mb h₀) (hk : cs.kind = .function) (hN : News h₀ L s.heap news)
    (hret : ∀ (t : Tok) (h' : Heap) (tk' : Nat), Fr h₀ L h' m → News h₀ L h' news → Q (R t) { s with heap := h', toks := tk' }) :
    wpAny (model PySem.Challenge.rw_sh0089_01.row.prog w) (callerA.deeper (envOf cn cs L a ccd)) (call (.ref f) vs) Q E s :=
  C cn cs a ccd base h₀ L m s Q E hB hF hX hT hk fun t h' tk' F' k => hret t h' tk' F' fun p hp => ⟨k _ _ (hN p hp).1, (hN p hp).2⟩

section
variable {h₀ h' g : Heap} {L L' : Addr} {m m' : Str → Option Value} {s : Shared} {Q : Value → Shared → Prop} {t : Tok} {tk' : Nat}
theorem retI {x y : Int} (hret : ∀ (t : Tok) (h' : Heap) (tk' : Nat), Fr h₀ L h' m → (∀ b o, s.heap.get? b = some o → h'.get? b = some o) → Q (.int x t) { s with heap := h', toks := tk' }) (e : y = x)
    (F : Fr h₀ L h' m) (hG : ∀ b o, s.heap.get? b = some o → g.get? b = some o) (F' : Fr g L' h' m') : Q (.int y t) { s with heap := h', toks := tk' } := by
  subst e
  exact hret t h' tk' F fun b o e => F'.keep b o (hG b o e)
theorem retS {x y : Str} (hret : ∀ (t : Tok) (h' : Heap) (tk' : Nat), Fr h₀ L h' m → (∀ b o, s.heap.get? b = some o → h'.get? b = some o) → Q (.str x t) { s with heap := h', toks := tk' }) (e : y = x)
    (F : Fr h₀ L h' m) (hG : ∀ b o, s.heap.get? b = some o → g.get? b = some o) (F' : Fr g L' h' m') : Q (.str y t) { s with heap := h', toks := tk' } := by
  subst e
  exact hret t h' tk' F fun b o e => F'.keep b o (hG b o e)
end
section
variable {M : Model} {A : Around} {E : Value → Shared → Prop} {s : Shared} {h₀ : Heap} {L a : Addr} {m : Str → Option Value} {cn : Str} {cs : Scope} {ccd : Value} {cl : List (Str × Addr)}
  {x : Str} {v : Value} {Q : Unit → Shared → Prop} {news : List (Addr × Obj)}
theorem stI {n : Int} {t : Tok} (F : Fr h₀ L s.heap m) (N : News h₀ L s.heap news)
    (h : ∀ (t : Tok) (tk : Nat) (h' : Heap), let m' : Str → Option Value := fun y => if y = x then some (.int n t) else m y; Fr h₀ L h' m' → News h₀ L h' news → Q () { s with heap := h', toks := tk })
    (hk : cs.kind = .function) (hx : (envX cn cs L a ccd cl).kindOf x = some .local) : wpAny M A (storeName (envX cn cs L a ccd cl) x (.int n t)) Q E s :=
  storeX_L F N (fun h' => h t _ h') hk hx
theorem stV (F : Fr h₀ L s.heap m) (N : News h₀ L s.heap news)
    (h : ∀ (tk : Nat) (h' : Heap), let m' : Str → Option Value := fun y => if y = x then some v else m y; Fr h₀ L h' m' → News h₀ L h' news → Q () { s with heap := h', toks := tk })
    (hk : cs.kind = .function) (hx : (envX cn cs L a ccd cl).kindOf x = some .local) : wpAny M A (storeName (envX cn cs L a ccd cl) x v) Q E s :=
  storeX_L F N (fun h' => h _ h') hk hx
end
end
end Mine
namespace Mine
section
theorem kIF (w mean mg mb) (n : Int) (t : Tok) : Cl w mean mg mb 28 [.int n t] (fun t => .int (Builtin.bitAnd n 61440) t) := by
  w_top off
  unfold Cl
  k_fill
  intro cn cs a ccd base h₀ L m s Q E hB hF hX hT hk hret
  (k_dflt (refine' enter0 (binds := [(Str.ofString "mode", .int n t)]) hB hF hX hT hk ?k6 ?k7 ?k9 ?kB ?_ ?c2 ?c3 ?c4 ?c5; (case k6 => k_is); (case k7 => k_is); (case k9 => exact BindsTo.of_eq rfl); (case c5 => decide); (case kB => exact locs rfl); (case c2 => exact rfl); (case c3 => exact rfl); (case c4 => exact rfl)))
  intro g' L' h' tk' hG FG' F' N' B' X' T'
  (try dsimp only)
  (try k_lift B')
  (try k_fold)
  k_steps
  refine retI hret ?_ (by k_asm) hG (by k_asm)
  rfl
theorem kIM (w mean mg mb) (n : Int) (t : Tok) : Cl w mean mg mb 21 [.int n t] (fun t => .int (Builtin.bitAnd n 4095) t) := by
  w_top off
  unfold Cl
  k_fill
  intro cn cs a ccd base h₀ L m s Q E hB hF hX hT hk hret
  (k_dflt (refine' enter0 (binds := [(Str.ofString "mode", .int n t)]) hB hF hX hT hk ?k6 ?k7 ?k9 ?kB ?_ ?c2 ?c3 ?c4 ?c5; (case k6 => k_is); (case k7 => k_is); (case k9 => exact BindsTo.of_eq rfl); (case c5 => decide); (case kB => exact locs rfl); (case c2 => exact rfl); (case c3 => exact rfl); (case c4 => exact rfl)))
  intro g' L' h' tk' hG FG' F' N' B' X' T'
  (try dsimp only)
  (try k_lift B')
  (try k_fold)
  k_steps
  refine retI hret ?_ (by k_asm) hG (by k_asm)
  rfl
end
end Mine
namespace Mine
section
open PySem.SeqAt
section
variable {prog : Program} {w : World} {A : Around} {E : Value → Shared → Prop} {s : Shared} {h₀ : Heap} {L : Addr} {news : List (Addr × Obj)} {l : Addr} {Q : Value → Shared → Prop}

theorem eqs_bools {A : Around} {s : Shared} {bs : List Bool} : ∀ y, y ∈ (bs.map Value.bool).toArray → EqAt A s y (.bool true) (isBoolOf true y) := by
  intro y hy
  obtain ⟨b, _, rfl⟩ := List.mem_map.mp (by simpa using hy : y ∈ bs.map Value.bool)
  exact EqAt.bool_bool b true
theorem any_bools (bs : List Bool) : (bs.map Value.bool).toArray.any (isBoolOf true) = bs.any id := by
  simp only [List.any_toArray, List.any_map]
  congr 1
  funext b
  cases b <;> rfl
theorem count_bools (bs : List Bool) : (bs.map Value.bool).toArray.toList.countP (isBoolOf true) = bs.countP id := by
  simp only [List.countP_map]
  congr 1
  funext b
  cases b <;> rfl

/-- the eight answers; what K is named by, at most one is True -/
def sayings (K : Int) (b : Bool) : List Bool := [K == 32768, b, K == 24576, K == 8192, K == 16384, K == 40960, K == 4096, K == 49152]
def kindIx (K : Int) : Nat := if K = 32768 then 0 else if K = 24576 then 2 else if K = 8192 then 3 else if K = 16384 then 4 else if K = 40960 then 5 else if K = 4096 then 6 else if K = 49152 then 7 else 1
def noneSaid (K : Int) : Bool := !(sayings K false).any id

theorem notIn_said {K : Int} {n : Nat} (N : News h₀ L s.heap news) (hm : (l, W.listOf #[.bool (K == 32768), .bool false, .bool (K == 24576), .bool (K == 8192), .bool (K == 16384), .bool (K == 40960), .bool (K == 4096), .bool (K == 49152)] n) ∈ news)
    (h : Q (.bool (noneSaid K)) s) : wpAny (model prog w) A (compareOp .NotIn (.bool true) (.ref l)) Q E s := by
  have hl : s.heap.IsList l ((sayings K false).map Value.bool).toArray := ⟨_, (N _ hm).1, rfl, n, rfl⟩
  refine notIn_listAt (isBoolOf true) hl eqs_bools ?_
  rw [any_bools]
  exact h

theorem count_said {K : Int} {n : Nat} (N : News h₀ L s.heap news) (hm : (l, W.listOf #[.bool (K == 32768), .bool (noneSaid K), .bool (K == 24576), .bool (K == 8192), .bool (K == 16384), .bool (K == 40960), .bool (K == 4096), .bool (K == 49152)] n) ∈ news)
    (h : Q (.int 1 s.toks) { s with toks := s.toks + 1 }) : wpAny (model prog w) A (call (.builtin "list.count") [.ref l, .bool true]) Q E s := by
  refine call_meets PySem.F.slot_list_count ⟨_, (N _ hm).1, rfl⟩ PySem.F.entry_list_count (PySem.F.args_list_count_2 _ _) (list_countAt l ((sayings K (noneSaid K)).map Value.bool).toArray n none #[] (.bool true) (isBoolOf true)) ⟨(N _ hm).1, eqs_bools, ?_⟩
  have e : (sayings K (noneSaid K)).countP id = 1 := by
    unfold noneSaid sayings
    by_cases h1 : K = 32768
    · subst h1; decide
    by_cases h2 : K = 24576
    · subst h2; decide
    by_cases h3 : K = 8192
    · subst h3; decide
    by_cases h4 : K = 16384
    · subst h4; decide
    by_cases h5 : K = 40960
    · subst h5; decide
    by_cases h6 : K = 4096
    · subst h6; decide
    by_cases h7 : K = 49152
    · subst h7; decide
    simp [h1, h2, h3, h4, h5, h6, h7, List.countP_cons]
  rw [count_bools, e]
  exact h

theorem index_said {K : Int} {n : Nat} (N : News h₀ L s.heap news) (hm : (l, W.listOf #[.bool (K == 32768), .bool (noneSaid K), .bool (K == 24576), .bool (K == 8192), .bool (K == 16384), .bool (K == 40960), .bool (K == 4096), .bool (K == 49152)] n) ∈ news)
    (h : Q (.int (kindIx K : Nat) s.toks) { s with toks := s.toks + 1 }) : wpAny (model prog w) A (call (.builtin "list.index") [.ref l, .bool true]) Q E s := by
  have key : ∃ hj : kindIx K < ((sayings K (noneSaid K)).map Value.bool).toArray.size, isBoolOf true ((sayings K (noneSaid K)).map Value.bool).toArray[kindIx K] = true ∧
      ∀ m (hm : m < ((sayings K (noneSaid K)).map Value.bool).toArray.size), m < kindIx K → isBoolOf true ((sayings K (noneSaid K)).map Value.bool).toArray[m] = false := by
    unfold kindIx noneSaid sayings
    by_cases h1 : K = 32768
    · subst h1; decide
    by_cases h2 : K = 24576
    · subst h2; decide
    by_cases h3 : K = 8192
    · subst h3; decide
    by_cases h4 : K = 16384
    · subst h4; decide
    by_cases h5 : K = 40960
    · subst h5; decide
    by_cases h6 : K = 4096
    · subst h6; decide
    by_cases h7 : K = 49152
    · subst h7; decide
    simp only [h1, h2, h3, h4, h5, h6, h7, if_false]
    refine ⟨by simp, by simp [isBoolOf, h1, h2, h3, h4, h5, h6, h7], fun m hm hlt => ?_⟩
    have : m = 0 := by omega
    subst this
    simp [isBoolOf, h1]
  obtain ⟨hj, hit, hno⟩ := key
  have hb : kindIx K ≤ 7 := by unfold kindIx; (repeat' split) <;> omega
  exact call_meets PySem.F.slot_list_index ⟨_, (N _ hm).1, rfl⟩ PySem.F.entry_list_index (PySem.F.args_list_index_2 _ _)
    (list_indexAt l ((sayings K (noneSaid K)).map Value.bool).toArray n none #[] (.bool true) (isBoolOf true) (kindIx K) hj (by omega) hit hno) ⟨(N _ hm).1, eqs_bools, h⟩
end
end
end Mine
namespace Mine
section
open Sem (wp)
open AutoSeq1 (wpAny_loadPart')
section
variable {prog : Program} {w : World} {A : Around} {E : Value → Shared → Prop} {s : Shared}

theorem nextOf_tup_item {it l : Addr} {i : Nat} {items : Array Value} {x : Value} {Q : Value → Shared → Prop} (hit : IsTupIter s.heap it l i)
    (hl : IsTup s.heap l items) (hx : items[i]? = some x)
    (hQ : ∀ h', IsTupIter h' it l (i + 1) → Heap.SameBut it s.heap h' → Q x { s with heap := h' }) :
    wpAny (model prog w) A (Builtin.SmallTypes.nextOf (.ref it)) Q E s := by
  obtain ⟨o, ho, hc, hd⟩ := id hit
  obtain ⟨ol, hol, _, nl, hdl⟩ := hl
  unfold Builtin.SmallTypes.nextOf
  refine wpAny_bind (wpAny_callSpecial?_slot (name := Str.ofString "__next__") hit.typeIs slot_tupleiter_next
    (wpAny_call_entry slot_tupleiter_next hit.typeIs entry_tupleiter_next ?_ (args_tupleiter_next _)))
  show wpAny _ _ (field (.ref it) 0 >>= _) _ _ s
  refine wpAny_bind (wpAny_field ho hd (x := .ref l) rfl ?_)
  show wpAny _ _ (if (Value.ref l == Value.none) = true then _ else _) _ _ s
  rw [if_neg (show ¬ ((Value.ref l == Value.none) = true) from Bool.false_ne_true)]
  show wpAny _ _ (field (.ref it) 1 >>= _) _ _ s
  refine wpAny_bind (wpAny_field ho hd (x := .int i 0) rfl ?_)
  show wpAny _ _ (seqItems? (.ref l) >>= _) _ _ s
  refine wpAny_bind (wpAny_seqItems hol hdl ?_)
  simp only [Int.toNat_natCast, hx]
  refine wpAny_bind (wpAny_setField ho hd (by simp) (wpAny_pure ⟨x, rfl, wpAny_pure (hQ _ ?_ (Heap.SameBut.update ..))⟩))
  exact ⟨_, Heap.get?_update_self _ ho (Obj.isFreed_of_fields (Obj.data_mapFields hd _)), (Obj.cls_mapFields ..).trans hc, by
    rw [Obj.data_mapFields hd]; simp [rawInt]⟩

theorem nextOf_tup_end {it l : Addr} {i : Nat} {items : Array Value} {Q : Value → Shared → Prop} (hh : A.handled = none)
    (hit : IsTupIter s.heap it l i) (hl : IsTup s.heap l items) (hx : items[i]? = none)
    (hE : ∀ h' e, Heap.ExtBut it s.heap h' → (∃ o, h'.get? e = some o ∧ o.cls = .type "StopIteration") → E (.ref e) { s with heap := h' }) :
    wpAny (model prog w) A (Builtin.SmallTypes.nextOf (.ref it)) Q E s := by
  obtain ⟨o, ho, hc, hd⟩ := id hit
  obtain ⟨ol, hol, _, nl, hdl⟩ := hl
  unfold Builtin.SmallTypes.nextOf
  refine wpAny_bind (wpAny_callSpecial?_slot (name := Str.ofString "__next__") hit.typeIs slot_tupleiter_next
    (wpAny_call_entry slot_tupleiter_next hit.typeIs entry_tupleiter_next ?_ (args_tupleiter_next _)))
  show wpAny _ _ (field (.ref it) 0 >>= _) _ _ s
  refine wpAny_bind (wpAny_field ho hd (x := .ref l) rfl ?_)
  show wpAny _ _ (if (Value.ref l == Value.none) = true then _ else _) _ _ s
  rw [if_neg (show ¬ ((Value.ref l == Value.none) = true) from Bool.false_ne_true)]
  show wpAny _ _ (field (.ref it) 1 >>= _) _ _ s
  refine wpAny_bind (wpAny_field ho hd (x := .int i 0) rfl ?_)
  show wpAny _ _ (seqItems? (.ref l) >>= _) _ _ s
  refine wpAny_bind (wpAny_seqItems hol hdl ?_)
  simp only [Int.toNat_natCast, hx]
  refine wpAny_bind (wpAny_rule (wpAny_bind (wpAny_setField ho hd (by simp) ?_)))
  show wpAny _ _ (newExc (.type "StopIteration") [] >>= _) _ _ _
  refine wpAny_bind ?_
  simp only [newExc, newTuple]
  refine wpAny_bind (wpAny_newObj_type ?_ (by size_fits))
  refine wpAny_bind (m := firstArgMember _ _) (wpAny_of_eq (a := Value.none) (by first | rfl | (simp only [firstArgMember]; rfl)) ?_)
  refine wpAny_newObj_type ?_ (by size_fits)
  simp only [raiseNew]
  refine wpAny_bind (wpAny_handled ?_)
  first | rw [show A.in1.handled = none from hh] | rw [hh]
  refine wpAny_bind (wpAny_pure (wpAny_throw ?_))
  exact hE _ _ (((Heap.SameBut.update ..).extBut.push _).push _) ⟨_, Heap.get?_push_size _ rfl, rfl⟩

theorem drawsTup (hh : A.handled = none) (it l : Addr) (hne : l ≠ it) (items : Array Value) :
    Draws prog w A it [it, l] items.size (fun i v => items[i]? = some v) (fun i h => IsTupIter h it l i ∧ IsTup h l items) where
  live := fun _ _ st => let ⟨o, ho, _⟩ := st.1; ⟨o, ho⟩
  frame := fun _ _ _ st hk => ⟨let ⟨o, ho, r⟩ := st.1; ⟨o, hk it (by simp) o ho, r⟩, let ⟨o, ho, r⟩ := st.2; ⟨o, hk l (by simp) o ho, r⟩⟩
  item := fun i s Q E hi st hQ => by
    refine nextOf_tup_item st.1 st.2 (x := items[i]) (by simp [hi]) fun h' hit' hs' => ?_
    exact hQ _ h' s.toks (by simp [hi]) ⟨hit', st.2.extBut hs'.extBut hne⟩ hs'
  done := fun s Q E st hE => nextOf_tup_end hh st.1 st.2 (by simp) hE
end

theorem meets_enumerate_newT (l : Addr) (items : Array Value) (n : Nat) (dct : Option Addr) (sl : Array (Option Value)) :
    Meets (Builtin.«enumerate.__new__» ⟨[.type "enumerate", .ref l], []⟩) (fun _ R s => s.heap.get? l = some { cls := .type "tuple", dict := dct, data := .seq items n, slots := sl } ∧
      R (.ok (.ret (.ref (s.heap.push { cls := .type "tuple_iterator", data := .fields #[.ref l, .int 0 0] }).objs.size)))
        { s with heap := (s.heap.push { cls := .type "tuple_iterator", data := .fields #[.ref l, .int 0 0] }).push { cls := .type "enumerate", data := .fields #[.none, .bool false, .ref s.heap.objs.size, rawInt 0, .none, .none] } }) :=
  .of_wp fun prog w A R s h => by
    obtain ⟨hp, g, d, tk, os⟩ := s; obtain ⟨hl, h⟩ := h
    have hsub := sub_enumerate
    have hL : IsTup (Shared.heap ⟨hp, g, d, tk, os⟩) l items := ⟨_, hl, rfl, n, rfl⟩
    wp_walk using wpAny_loadPart' hl
    refine wpAny_stack_any fun st => wpAny_pure ?_
    split
    · rename_i c _ _ _ _ _
      cases (c == Value.type "enumerate")
      · wp_walk using wpAny_loadPart' hl, iter_tuple hL
        exact ⟨_, rfl, h⟩
      · wp_walk using wpAny_loadPart' hl, iter_tuple hL
        exact ⟨_, rfl, h⟩
    · wp_walk using wpAny_loadPart' hl, iter_tuple hL
      exact ⟨_, rfl, h⟩

section
variable {prog : Program} {w : World} {A : Around} {E : Value → Shared → Prop} {s : Shared} {h₀ : Heap} {env : Env} {m : Str → Option Value} {news : List (Addr × Obj)}

theorem call_enumerate_tup {l : Addr} {items : Array Value} {Q : Value → Shared → Prop} (hL : IsTup s.heap l items)
    (h : ∀ h', IsEnum h' (s.heap.objs.size + 1) s.heap.objs.size 0 .none → IsTupIter h' s.heap.objs.size l 0 → h'.objs.size = s.heap.objs.size + 2 →
      (∀ b o, s.heap.get? b = some o → h'.get? b = some o) → Q (.ref (s.heap.objs.size + 1)) { s with heap := h' }) :
    wpAny (model prog w) A (call (.type "enumerate") [.ref l]) Q E s := by
  obtain ⟨⟨c, dct, dt, sl⟩, hl, hc, n, hd⟩ := hL
  replace hc : c = .type "tuple" := hc
  replace hd : dt = .seq items n := hd
  subst hc hd
  refine callType_new F.called_enumerate (by decide) (F.typeCall_enumerate_1 _) (F.newCall_enumerate_1 _) (fun obj => F.args_object_init_2 obj _) F.entry_enumerate_new
    (meets_enumerate_newT l items n dct sl) ⟨hl, ?_⟩
  have hz : (s.heap.push { cls := .type "tuple_iterator", data := .fields #[.ref l, .int 0 0] }).objs.size = s.heap.objs.size + 1 := Heap.size_push ..
  show _ ∧ _
  rw [hz]
  have he : IsEnum ((s.heap.push { cls := .type "tuple_iterator", data := .fields #[.ref l, .int 0 0] }).push
      { cls := .type "enumerate", data := .fields #[.none, .bool false, .ref s.heap.objs.size, rawInt 0, .none, .none] }) (s.heap.objs.size + 1) s.heap.objs.size 0 .none := by
    have := Heap.get?_push_size (s.heap.push { cls := .type "tuple_iterator", data := .fields #[.ref l, .int 0 0] })
      (o := { cls := .type "enumerate", data := .fields #[.none, .bool false, .ref s.heap.objs.size, rawInt 0, .none, .none] }) rfl
    rw [hz] at this; exact this
  refine ⟨⟨_, he, rfl⟩, h _ he ⟨_, Heap.get?_push_of_some _ (Heap.get?_push_size _ rfl), rfl, rfl⟩ (by rw [Heap.size_push, hz]) fun b o x => Heap.get?_push_of_some _ (Heap.get?_push_of_some _ x)⟩

/-- for i, x in enumerate(a tuple that stood before): by an invariant -/
theorem enumTup {l : Addr} {items : Array Value} {xi xc : Str} {body : List Stmt} {Q : Flow → Shared → Prop} (J : Nat → (Str → Option Value) → List (Addr × Obj) → Prop) (hh : A.handled = none) (hl : IsTup h₀ l items)
    (F : Fr h₀ env.locals s.heap m) (N : News h₀ env.locals s.heap news) (h0 : J 0 m news)
    (step : ∀ (i : Nat) v t m₁ news₁ h tk own, items[i]? = some v → J i m₁ news₁ → news₁.map (·.1) = news.map (·.1) → (∀ p ∈ own, ∀ q ∈ news, p.1 ≠ q.1) →
      Fr h₀ env.locals h (fun y => if y = xc then some v else if y = xi then some (.int i t) else m₁ y) → News h₀ env.locals h (own ++ news₁) →
      wpAny (model prog w) A (execs body env) (LoopStep3 h₀ env.locals own news₁ (J (i + 1)) { s with heap := h, toks := tk } (fun v s' => Q (.ret v) s') fun s' => Q .next s') E { s with heap := h, toks := tk })
    (done : ∀ h' tk m' news', Fr h₀ env.locals h' m' → News h₀ env.locals h' news' → news'.map (·.1) = news.map (·.1) → J items.size m' news' → Q .next { s with heap := h', toks := tk }) :
    wpAny (model prog w) A (call (.type "enumerate") [.ref l]) (fun xv s₁ => wpAny (model prog w) A (pyIter xv) (fun it s₂ => PairAt3 prog w A h₀ env xi xc body Q E it s₂) E s₁) E s := by
  have hls : IsTup s.heap l items := hl.keeps F.keep
  have hlt : l < h₀.objs.size := hl.lt
  have hLs : env.locals < s.heap.objs.size := F.ns.lt
  have hab : h₀.objs.size ≤ env.locals := F.above
  have hl2 : l < s.heap.objs.size := Nat.lt_trans (Nat.lt_of_lt_of_le hlt hab) hLs
  refine call_enumerate_tup hls fun h' he hit hsz hk => ?_
  have F' : Fr h₀ env.locals h' m := ⟨F.ns.keeps hk, fun b o e => hk b o (F.keep b o e), F.above⟩
  have N' : News h₀ env.locals h' news := fun p hp => ⟨hk _ _ (N p hp).1, (N p hp).2⟩
  have hls' : IsTup h' l items := hls.keeps hk
  have hfn : ∀ b ∈ [s.heap.objs.size + 1, s.heap.objs.size, l], ∀ q ∈ news, b ≠ q.1 := by
    intro b hb q hq e
    have hq1 : q.1 < s.heap.objs.size := Heap.lt_size (N q hq).1
    rcases List.mem_cons.mp hb with e1 | hb
    · exact Nat.ne_of_gt (Nat.lt_succ_of_lt hq1) (e1.symm.trans e)
    · rcases List.mem_cons.mp hb with e1 | hb
      · exact Nat.ne_of_gt hq1 (e1.symm.trans e)
      · have e2 := List.mem_singleton.mp hb
        have hn := (N q hq).2.2
        obtain ⟨ol, hol, _⟩ := hl
        rw [← e, e2, hol] at hn
        cases hn
  refine wpAny_pyIter_enum he ?_
  have W := WalksT.enumerateD (prog := prog) (w := w) (A := A) (drawsTup (A := A.in1) hh s.heap.objs.size l (Nat.ne_of_lt hl2) items) (s.heap.objs.size + 1) (Nat.succ_ne_self _) (by
    intro hm
    rcases List.mem_cons.mp hm with e | hm
    · exact Nat.succ_ne_self _ e
    · exact Nat.ne_of_gt (Nat.lt_succ_of_lt hl2) (List.mem_singleton.mp hm)) (by simp)
  refine ⟨s.heap.objs.size + 1, _, [s.heap.objs.size + 1, s.heap.objs.size], items.size, _, _, _, (fun i v0 v1 => ∃ t, v0 = .int i t ∧ items[i]? = some v1), m, news, J, rfl, W, ?_, ?_, ?_, ?_, ⟨⟨_, by simpa using he⟩, hit, hls'⟩, F', N', h0, ?_, ?_⟩
  · rintro i vals ⟨t, x, hPx, rfl⟩
    exact ⟨_, _, rfl, t, rfl, hPx⟩
  · intro hm
    rcases List.mem_cons.mp hm with e | hm
    · exact Nat.ne_of_lt (Nat.lt_succ_of_lt hLs) e
    · rcases List.mem_cons.mp hm with e | hm
      · exact Nat.ne_of_lt hLs e
      · exact Nat.ne_of_gt (Nat.lt_of_lt_of_le hlt hab) (List.mem_singleton.mp hm)
  · intro b hb
    rcases List.mem_cons.mp hb with rfl | hb
    · exact Heap.get?_none_of_le (Nat.le_trans hab (Nat.le_of_lt (Nat.lt_succ_of_lt hLs)))
    · rw [List.mem_singleton.mp hb]; exact Heap.get?_none_of_le (Nat.le_trans hab (Nat.le_of_lt hLs))
  · intro p hp hb
    rcases List.mem_cons.mp hb with e1 | hb
    · exact hfn _ (by simp) p hp e1.symm
    · exact hfn _ (by simp) p hp (List.mem_singleton.mp hb).symm
  · rintro i v0 v1 m₁ news₁ s₁ own ⟨hh₁, tk₁, rfl⟩ _ ⟨t, rfl, hPx⟩ hJ ha hsub F₁ N₁
    exact step i v1 t m₁ news₁ hh₁ tk₁ own hPx hJ ha (fun p hp q hq => hfn _ (hsub p hp) q hq) F₁ N₁
  · intro h₂ tk₂ m' news' F₂ N₂ ha hJ
    exact done h₂ tk₂ m' news' F₂ N₂ ha hJ
end
end
end Mine
namespace Mine
section
open PySem.Calls PyProof.V
section
variable {prog : Program} {w : World} {A : Around} {E : Value → Shared → Prop} {s : Shared} {env : Env} {h₀ : Heap} {target : PySem.Expr} {body : List Stmt} {Q : Flow → Shared → Prop} {K : Frag}
theorem unrEndW_mono {L : Addr} {s₁ s₂ : Shared} {its : List (Addr × Obj)} {r r' : (Str → Option Value) → List (Addr × Obj) → Prop} (h : ∀ m n, r m n → r' m n) : UnrEndW h₀ L s₁ its r s₂ → UnrEndW h₀ L s₁ its r' s₂ := by
  rintro ⟨h', tk, m', news', e, F', N', ho, x⟩
  exact ⟨h', tk, m', news', e, F', N', ho, h _ _ x⟩
theorem unrPostW_mono {L : Addr} {s₁ : Shared} {its : List (Addr × Obj)} {r r' : (Str → Option Value) → List (Addr × Obj) → Prop} (h : ∀ m n, r m n → r' m n) (f : Flow) (s₂ : Shared) (x : UnrPostW h₀ L s₁ its r Q f s₂) : UnrPostW h₀ L s₁ its r' Q f s₂ := by
  cases f with
  | ret v => exact x
  | brk => exact x
  | next => exact unrEndW_mono h x
  | cont => exact unrEndW_mono h x
theorem allObj_mono : ∀ {ws : List (Addr × String)} {k k' : List (Addr × Obj) → Prop}, (∀ its, k its → k' its) → AllObj ws k → AllObj ws k'
  | [], _, _, h, x => h _ x
  | _ :: _, _, _, h, x => fun o ho => allObj_mono (fun its => h _) (x o ho)

/-- a loop's turns by an invariant over the frame and the ledger -/
theorem itemsRest_inv {ws : List (Addr × String)} {keep : List (Addr × Obj)} {xs : List Itm} (J : Nat → (Str → Option Value) → List (Addr × Obj) → Prop)
    (step : ∀ i a m news, xs[i]? = some a → J i m news → SubL keep news → ∀ v h tk, a.Is v h → Fr h₀ env.locals h m → AllObj ws (fun its => News h₀ env.locals h (its ++ news) →
      wpAny (model prog w) A (assign target env v) (fun _ s₂ => wpAny (model prog w) A (execs body env) (UnrPostW h₀ env.locals { s with heap := h, toks := tk } its (fun m' n' => SubL keep n' ∧ J (i + 1) m' n') Q) E s₂) E { s with heap := h, toks := tk }))
    (done : ∀ m news, J xs.length m news → ∀ h tk, Fr h₀ env.locals h m → News h₀ env.locals h news → Q .next { s with heap := h, toks := tk }) :
    ∀ (k i : Nat) (m : Str → Option Value) (news : List (Addr × Obj)), i + k = xs.length → SubL keep news → J i m news → ItemsRest prog w A E h₀ env target body Q s ws keep (xs.drop i) m news
  | 0, i, m, news, hk, _, hJ => by
    have e : i = xs.length := by omega
    subst e
    rw [List.drop_length]
    exact ItemsRest.zero (done m news hJ)
  | k + 1, i, m, news, hk, hs, hJ => by
    have hlt : i < xs.length := by omega
    rw [List.drop_eq_getElem_cons hlt]
    intro v h tk ha F
    refine allObj_mono (fun its x N => ?_) (step i xs[i] m news (List.getElem?_eq_getElem hlt) hJ hs v h tk ha F)
    refine wpAny_mono (x N) (fun _ s₂ y => wpAny_mono y (fun f s₃ z => ?_) fun _ _ e => e) fun _ _ e => e
    exact unrPostW_mono (fun m' n' q => ⟨q.1, itemsRest_inv J step done k (i + 1) m' n' (by omega) q.1 q.2⟩) f s₃ z

/-- for a, b in enumerate(a tuple of the text) -/
theorem enumTupK {elts : List PySem.Expr} {k : Nat} {pos : Pos} {l : Addr} {lo : Obj} {vs : List Value} {n : Nat} {m₀ : Str → Option Value} {news : List (Addr × Obj)}
    (hh : A.handled = none) (F : Fr h₀ env.locals s.heap m₀) (N : News h₀ env.locals s.heap news) (hg : h₀.get? l = some lo) (hc : lo.cls = .type "tuple") (hd : lo.data = .seq vs.toArray n)
    (rest₀ : ∀ I : Addr, (∀ p ∈ news, p.1 < I) → ItemsRest prog w A E h₀ env (.Tuple elts k pos) body Q s [(I + 1, "enumerate"), (I, "tuple_iterator")] [] (enumItems 0 vs) m₀ news) :
    wpAny (model prog w) A (call (.type "enumerate") [.ref l]) (fun xv s₁ => wpAny (model prog w) A (pyIter xv) (fun it s₂ => TurnsAt prog w A h₀ env (.Tuple elts k pos) body Q E it s₂) E s₁) E s := by
  have hl0 : IsTup h₀ l vs.toArray := ⟨lo, hg, hc, n, hd⟩
  have hl : IsTup s.heap l vs.toArray := hl0.keeps F.keep
  have hlt : l < s.heap.objs.size := by obtain ⟨o, ho, _⟩ := hl; exact Heap.lt_size ho
  have hLs : env.locals < s.heap.objs.size := F.ns.lt
  refine call_enumerate_tup hl fun h' hE hI hsz hk => ?_
  refine wpAny_pyIter_enum hE ?_
  refine ktg_core (tk0 := s.toks) (keep := []) (KTurns.ofWalksU (WalksT.enumerateD (drawsTup (A := A.in1) hh s.heap.objs.size l (Nat.ne_of_lt hlt) vs.toArray) (s.heap.objs.size + 1) (Nat.succ_ne_self _) (by
    intro hm
    rcases List.mem_cons.mp hm with e | hm
    · exact Nat.succ_ne_self _ e
    · exact Nat.ne_of_gt (Nat.lt_succ_of_lt hlt) (List.mem_singleton.mp hm)) (by simp)).toU) (by simp [enumItems_length]) ?_ ?_ ?_ ?_ ?_ ?_ ?_ ?_ (F.keeps hk) (N.grown hk) trivial (rest₀ _ fun p hp => Heap.lt_size (N p hp).1)
  · rintro i v h ⟨T, vals, rfl, ⟨t, x, hx, rfl⟩, hT⟩
    refine ⟨_, enumItems_get vs 0 i (v := x) (by simpa using hx), T, t, rfl, ?_⟩
    show IsTup h T #[.int ((0 + i : Nat) : Int) t, x]
    rw [Nat.zero_add]
    exact hT
  · rintro i h ⟨⟨old, he⟩, ⟨oi, hoi, hic, _⟩, _⟩
    have he' : ∃ oe : Obj, h.get? (s.heap.objs.size + 1) = some oe ∧ oe.cls = .type "enumerate" := ⟨_, he, rfl⟩
    obtain ⟨oe, h1, h2⟩ := he'
    refine ⟨[(s.heap.objs.size + 1, oe), (s.heap.objs.size, oi)], ⟨⟨rfl, h2⟩, ⟨rfl, hic⟩, trivial⟩, fun p hp => ?_⟩
    rcases List.mem_cons.mp hp with rfl | hp
    · exact h1
    · rw [List.mem_singleton.mp hp]; exact hoi
  · intro b hb
    have hb' : b = s.heap.objs.size + 1 ∨ b = s.heap.objs.size := by simpa using hb
    rcases hb' with rfl | rfl
    · exact ⟨by simp, ktu_new F (Nat.le_add_right _ _)⟩
    · exact ⟨by simp, ktu_new F (Nat.le_refl _)⟩
  · intro b hb
    simpa using hb
  · intro b hb
    have hb' : b = s.heap.objs.size + 1 ∨ b = s.heap.objs.size ∨ b = l := by simpa using hb
    rcases hb' with rfl | rfl | rfl
    · exact .inl (by simp)
    · exact .inl (by simp)
    · exact .inr (.inr ⟨lo, hg⟩)
  · intro hI'
    have hb' : env.locals = s.heap.objs.size + 1 ∨ env.locals = s.heap.objs.size ∨ env.locals = l := by simpa using hI'
    rcases hb' with e | e | e
    · exact ktu_ne 1 hLs e
    · exact Nat.ne_of_lt hLs e
    · exact absurd (Heap.lt_size hg) (Nat.not_lt.mpr (e ▸ F.above))
  · intro p hp hI'
    have hb' : p.1 = s.heap.objs.size + 1 ∨ p.1 = s.heap.objs.size := by simpa using hI'
    have hlp := Heap.lt_size (N p hp).1
    rcases hb' with e | e
    · exact ktu_ne 1 hlp e
    · exact Nat.ne_of_lt hlp e
  · exact ⟨⟨.none, hE⟩, hI, hl.keeps hk⟩

/-- for a, b in enumerate(a list that stood before) -/
theorem enumListK {elts : List PySem.Expr} {k : Nat} {pos : Pos} {l : Addr} {vs : List Value} {m₀ : Str → Option Value} {news : List (Addr × Obj)}
    (hh : A.handled = none) (F : Fr h₀ env.locals s.heap m₀) (N : News h₀ env.locals s.heap news) (hl0 : h₀.IsList l vs.toArray)
    (rest₀ : ∀ I : Addr, (∀ p ∈ news, p.1 < I) → ItemsRest prog w A E h₀ env (.Tuple elts k pos) body Q s [(I + 1, "enumerate"), (I, "list_iterator")] [] (enumItems 0 vs) m₀ news) :
    wpAny (model prog w) A (call (.type "enumerate") [.ref l]) (fun xv s₁ => wpAny (model prog w) A (pyIter xv) (fun it s₂ => TurnsAt prog w A h₀ env (.Tuple elts k pos) body Q E it s₂) E s₁) E s := by
  have hl : s.heap.IsList l vs.toArray := hl0.at fun o e => F.keep l o e
  obtain ⟨lo, hg, _⟩ := id hl0
  have hlt : l < s.heap.objs.size := by obtain ⟨o, ho, _⟩ := hl; exact Heap.lt_size ho
  have hLs : env.locals < s.heap.objs.size := F.ns.lt
  refine call_enumerate_list hl fun h' hE hI hsz hk => ?_
  refine wpAny_pyIter_enum hE ?_
  refine ktg_core (tk0 := s.toks) (keep := []) (KTurns.ofWalksU (WalksT.enumerate hh (s.heap.objs.size + 1) s.heap.objs.size l (Nat.succ_ne_self _) (ktu_ne 1 hlt) (Nat.ne_of_lt hlt) vs.toArray).toU) (by simp [enumItems_length]) ?_ ?_ ?_ ?_ ?_ ?_ ?_ ?_ (F.keeps hk) (N.grown hk) trivial (rest₀ _ fun p hp => Heap.lt_size (N p hp).1)
  · rintro i v h ⟨T, vals, rfl, ⟨t, x, hx, rfl⟩, hT⟩
    refine ⟨_, enumItems_get vs 0 i (v := x) (by simpa using hx), T, t, rfl, ?_⟩
    show IsTup h T #[.int ((0 + i : Nat) : Int) t, x]
    rw [Nat.zero_add]
    exact hT
  · rintro i h ⟨⟨old, he⟩, ⟨oi, hoi, hic, _⟩, _⟩
    have he' : ∃ oe : Obj, h.get? (s.heap.objs.size + 1) = some oe ∧ oe.cls = .type "enumerate" := ⟨_, he, rfl⟩
    obtain ⟨oe, h1, h2⟩ := he'
    refine ⟨[(s.heap.objs.size + 1, oe), (s.heap.objs.size, oi)], ⟨⟨rfl, h2⟩, ⟨rfl, hic⟩, trivial⟩, fun p hp => ?_⟩
    rcases List.mem_cons.mp hp with rfl | hp
    · exact h1
    · rw [List.mem_singleton.mp hp]; exact hoi
  · intro b hb
    have hb' : b = s.heap.objs.size + 1 ∨ b = s.heap.objs.size := by simpa using hb
    rcases hb' with rfl | rfl
    · exact ⟨by simp, ktu_new F (Nat.le_add_right _ _)⟩
    · exact ⟨by simp, ktu_new F (Nat.le_refl _)⟩
  · intro b hb
    simpa using hb
  · intro b hb
    have hb' : b = s.heap.objs.size + 1 ∨ b = s.heap.objs.size ∨ b = l := by simpa using hb
    rcases hb' with rfl | rfl | rfl
    · exact .inl (by simp)
    · exact .inl (by simp)
    · exact .inr (.inr ⟨lo, hg⟩)
  · intro hI'
    have hb' : env.locals = s.heap.objs.size + 1 ∨ env.locals = s.heap.objs.size ∨ env.locals = l := by simpa using hI'
    rcases hb' with e | e | e
    · exact ktu_ne 1 hLs e
    · exact Nat.ne_of_lt hLs e
    · exact absurd (Heap.lt_size hg) (Nat.not_lt.mpr (e ▸ F.above))
  · intro p hp hI'
    have hb' : p.1 = s.heap.objs.size + 1 ∨ p.1 = s.heap.objs.size := by simpa using hI'
    have hlp := Heap.lt_size (N p hp).1
    rcases hb' with e | e
    · exact ktu_ne 1 hlp e
    · exact Nat.ne_of_lt hlp e
  · exact ⟨⟨.none, hE⟩, hI, hl.at fun o e => hk l o e⟩
end
end
end Mine
namespace Mine
section
section
variable {prog : Program} {w : World} {A : Around} {E : Value → Shared → Prop} {s : Shared} {env : Env} {h₀ : Heap} {target : PySem.Expr} {body orelse : List Stmt} {Q : Flow → Shared → Prop}
/-- the turns left of «for target in a tuple: body else: orelse» -/
def TE (prog : Program) (w : World) (A : Around) (E : Value → Shared → Prop) (h₀ : Heap) (env : Env) (target : PySem.Expr) (body orelse : List Stmt) (Q : Flow → Shared → Prop) (s : Shared) (I : Addr) (lp : Addr × Obj) : List Value → (Str → Option Value) → List (Addr × Obj) → Prop
  | [], m, news => ∀ h tk, Fr h₀ env.locals h m → News h₀ env.locals h news → wpAny (model prog w) A (execs orelse env) Q E { s with heap := h, toks := tk }
  | v :: r, m, news => ∀ (it : Obj) h tk, it.cls = .type "tuple_iterator" → Fr h₀ env.locals h m → News h₀ env.locals h ((I, it) :: news) →
      wpAny (model prog w) A (assign target env v) (fun _ s₁ => wpAny (model prog w) A (execs body env)
        (UnrPost h₀ env.locals { s with heap := h, toks := tk } I it (fun m' n' => lp ∈ n' ∧ TE prog w A E h₀ env target body orelse Q s I lp r m' n') Q) E s₁) E { s with heap := h, toks := tk }
theorem TE.zero {I : Addr} {lp : Addr × Obj} {m : Str → Option Value} {news : List (Addr × Obj)} (h : ∀ h tk, Fr h₀ env.locals h m → News h₀ env.locals h news → wpAny (model prog w) A (execs orelse env) Q E { s with heap := h, toks := tk }) :
    TE prog w A E h₀ env target body orelse Q s I lp [] m news := h
theorem TE.succ {I : Addr} {lp : Addr × Obj} {v : Value} {r : List Value} {m : Str → Option Value} {news : List (Addr × Obj)}
    (h : ∀ (it : Obj) h tk, it.cls = .type "tuple_iterator" → Fr h₀ env.locals h m → News h₀ env.locals h ((I, it) :: news) →
      wpAny (model prog w) A (assign target env v) (fun _ s₁ => wpAny (model prog w) A (execs body env)
        (UnrPost h₀ env.locals { s with heap := h, toks := tk } I it (fun m' n' => lp ∈ n' ∧ TE prog w A E h₀ env target body orelse Q s I lp r m' n') Q) E s₁) E { s with heap := h, toks := tk }) :
    TE prog w A E h₀ env target body orelse Q s I lp (v :: r) m news := h

theorem TE_at {I : Addr} {lp : Addr × Obj} {hp : Heap} {tk0 : Nat} : ∀ {vs : List Value} {m : Str → Option Value} {news : List (Addr × Obj)}, TE prog w A E h₀ env target body orelse Q { s with heap := hp, toks := tk0 } I lp vs m news ↔ TE prog w A E h₀ env target body orelse Q s I lp vs m news
  | [], _, _ => Iff.rfl
  | v :: r, _, _ => by
    unfold TE
    have e : (fun m' n' => lp ∈ n' ∧ TE prog w A E h₀ env target body orelse Q { s with heap := hp, toks := tk0 } I lp r m' n') = (fun m' n' => lp ∈ n' ∧ TE prog w A E h₀ env target body orelse Q s I lp r m' n') := by
      funext m' n'
      exact propext (and_congr_right fun _ => TE_at)
    rw [e]

theorem els_loop {R : Result → Shared → Prop} {I ax : Addr} {vs : List Value} {m : Str → Option Value} {news : List (Addr × Obj)} {lp : Addr × Obj} (hh : A.handled = none) (hne : ax ≠ I) (hax : ∃ o, h₀.get? ax = some o) (hI : h₀.get? I = none) (hIL : I ≠ env.locals) (hoff : ∀ p ∈ news, p.1 ≠ I)
    (hst : s.heap.IsTupleIter I ax 0) (hT : IsTup h₀ ax vs.toArray) (F : Fr h₀ env.locals s.heap m) (N : News h₀ env.locals s.heap news)
    (rest : TE prog w A (notedBy (model prog w) A env fun e s' => R (.error e) s') h₀ env target body orelse (fun f s' => R (.ok f) s') s I lp vs m news) :
    codeAny (model prog w) A (.forLoop target (.ref I) body orelse env) R s := by
  refine codeAny_forLoop_any
    (fun k s' => ∃ h' tk m' news' i, s' = { s with heap := h', toks := tk } ∧ h'.IsTupleIter I ax i ∧ Fr h₀ env.locals h' m' ∧ News h₀ env.locals h' news' ∧ (∀ p ∈ news', p.1 ≠ I) ∧
      TE prog w A (notedBy (model prog w) A env fun e s' => R (.error e) s') h₀ env target body orelse (fun f s' => R (.ok f) s') s I lp (vs.drop i) m' news' ∧ i ≤ vs.length ∧ k = vs.length + 1 - i) ?_ (vs.length + 1)
    ⟨s.heap, s.toks, m, news, 0, rfl, hst, F, N, hoff, by rw [List.drop_zero]; exact rest, Nat.zero_le _, rfl⟩
  rintro k s' ⟨h', tk, m', news', i, rfl, hst', F', N', hnw', hJ, hi, rfl⟩
  have hTT : h'.IsTuple ax vs.toArray := Heap.IsTuple.at hT fun o e => F'.keep ax o e
  have W := Walks.tuple (prog := prog) (w := w) hh I ax hne vs.toArray
  have old : ∀ b o, h₀.get? b = some o → b ∉ [I] := fun b o e hb => by rw [List.mem_singleton.mp hb, hI] at e; cases e
  have next : ∀ h₁ : Heap, (∀ b o, b ∉ [I] → h'.get? b = some o → h₁.get? b = some o) → Fr h₀ env.locals h₁ m' ∧ News h₀ env.locals h₁ news' := fun h₁ hk₁ =>
    ⟨⟨F'.ns.at' fun o e => hk₁ _ o (fun x => hIL (List.mem_singleton.mp x).symm) e, fun b o e => hk₁ b o (old b o e) (F'.keep b o e), F'.above⟩, fun p hp => ⟨hk₁ _ _ (fun x => hnw' p hp (List.mem_singleton.mp x)) (N' p hp).1, (N' p hp).2⟩⟩
  by_cases hlt : i < vs.length
  · refine W.item i _ _ _ (by simpa using hlt) ⟨hst', hTT⟩ fun v h₁ tk₁ hP hst₁ hk₁ => ?_
    obtain ⟨F₁, N₁⟩ := next h₁ hk₁
    refine letGo_tupleiter hst₁.1 ?_
    obtain ⟨it, hit, hic, hid⟩ := hst₁.1
    have hv : vs[i]? = some v := by simpa using hP
    have hdrop : vs.drop i = v :: vs.drop (i + 1) := by
      rw [List.drop_eq_getElem_cons hlt]
      congr 1
      exact Option.some.inj ((List.getElem?_eq_getElem hlt).symm.trans hv)
    rw [hdrop] at hJ
    have N₂ : News h₀ env.locals h₁ ((I, it) :: news') := fun p hp => by
      rcases List.mem_cons.mp hp with rfl | hp
      · exact ⟨hit, hIL, hI⟩
      · exact N₁ _ hp
    refine wpAny_mono (hJ it h₁ tk₁ hic F₁ N₂) (fun _ s₂ h₂ => wpAny_mono h₂ (fun f s₃ h₃ => ?_) fun _ _ e => e) fun _ _ e => e
    have fin : UnrEnd h₀ env.locals { s with heap := h₁, toks := tk₁ } I it (fun m' n' => lp ∈ n' ∧ TE prog w A (notedBy (model prog w) A env fun e s' => R (.error e) s') h₀ env target body orelse (fun f s' => R (.ok f) s') s I lp (vs.drop (i + 1)) m' n') s₃ →
        ∃ m, m < vs.length + 1 - i ∧ ∃ h' tk m' news' i', s₃ = { s with heap := h', toks := tk } ∧ h'.IsTupleIter I ax i' ∧ Fr h₀ env.locals h' m' ∧ News h₀ env.locals h' news' ∧ (∀ p ∈ news', p.1 ≠ I) ∧
          TE prog w A (notedBy (model prog w) A env fun e s' => R (.error e) s') h₀ env target body orelse (fun f s' => R (.ok f) s') s I lp (vs.drop i') m' news' ∧ i' ≤ vs.length ∧ m = vs.length + 1 - i' := by
      rintro ⟨h₄, tk₃, m₃, news₃, rfl, F₃, N₃, ho, hmm, r⟩
      exact ⟨vs.length + 1 - (i + 1), by omega, h₄, tk₃, m₃, news₃, i + 1, rfl, ⟨it, (N₃ _ (List.mem_cons_self ..)).1, hic, hid⟩, F₃, fun p hp => N₃ p (List.mem_cons_of_mem _ hp), ho, r, hlt, rfl⟩
    cases f with
    | ret v => exact h₃
    | brk => exact h₃
    | next => exact fin h₃
    | cont => exact fin h₃
  · have hin : i = vs.length := by omega
    subst hin
    refine W.done _ _ _ ⟨by simpa using hst', hTT⟩ fun h₁ tk₁ hk₁ => ?_
    obtain ⟨F₁, N₁⟩ := next h₁ hk₁
    rw [List.drop_length] at hJ
    exact hJ h₁ tk₁ F₁ N₁

def ElsAt (prog : Program) (w : World) (A : Around) (h₀ : Heap) (env : Env) (target : PySem.Expr) (body orelse : List Stmt) (Q : Flow → Shared → Prop) (E : Value → Shared → Prop) (it : Value) (s : Shared) : Prop :=
  ∃ (I ax : Addr) (vs : List Value) (m : Str → Option Value) (news : List (Addr × Obj)) (lp : Addr × Obj), it = .ref I ∧ ax ≠ I ∧ A.handled = none ∧ (∃ o, h₀.get? ax = some o) ∧ h₀.get? I = none ∧ I ≠ env.locals ∧ (∀ p ∈ news, p.1 ≠ I) ∧
    s.heap.IsTupleIter I ax 0 ∧ IsTup h₀ ax vs.toArray ∧ Fr h₀ env.locals s.heap m ∧ News h₀ env.locals s.heap news ∧ TE prog w A E h₀ env target body orelse Q s I lp vs m news

theorem TE.monoE {E' : Value → Shared → Prop} {I : Addr} {lp : Addr × Obj} (hE : ∀ e s, E e s → E' e s) : ∀ {vs : List Value} {m : Str → Option Value} {news : List (Addr × Obj)}, TE prog w A E h₀ env target body orelse Q s I lp vs m news → TE prog w A E' h₀ env target body orelse Q s I lp vs m news
  | [], _, _, h => fun hp tk F N => wpAny_mono (h hp tk F N) (fun _ _ x => x) hE
  | v :: r, _, _, h => fun it hp tk hc F N => wpAny_mono (h it hp tk hc F N) (fun _ s₁ h₁ => wpAny_mono h₁ (fun f s₂ h₂ => by
      have go : UnrEnd h₀ env.locals { s with heap := hp, toks := tk } I it (fun m' n' => lp ∈ n' ∧ TE prog w A E h₀ env target body orelse Q s I lp r m' n') s₂ → UnrEnd h₀ env.locals { s with heap := hp, toks := tk } I it (fun m' n' => lp ∈ n' ∧ TE prog w A E' h₀ env target body orelse Q s I lp r m' n') s₂ := by
        rintro ⟨h₃, tk₃, m₃, news₃, e, F₃, N₃, ho, hmm, x⟩
        exact ⟨h₃, tk₃, m₃, news₃, e, F₃, N₃, ho, hmm, TE.monoE hE x⟩
      cases f with
      | ret v => exact h₂
      | brk => exact h₂
      | next => exact go h₂
      | cont => exact go h₂) hE) hE

theorem For_els {iter : PySem.Expr} {pos : Pos} {m : Str → Option Value} (_F : Fr h₀ env.locals s.heap m)
    (h : wpAny (model prog w) A (eval iter env) (fun xv s₁ => wpAny (model prog w) A (pyIter xv) (fun it s₂ => ElsAt prog w A h₀ env target body orelse Q E it s₂) E s₁) E s)
    (hs : ∀ x, foldedSetIterable iter env x = pure x := by intro _; rfl)
    (hE : PassesOwn (model prog w) A env E := by passes_own) :
    wpAny (model prog w) A (exec (.For target iter body orelse pos) env) Q E s := by
  refine wpAny_For (wpAny_mono h (fun xv s₁ h₁ => wpAny_mono h₁ (fun it s₂ h₂ => ?_) fun _ _ e => e) fun _ _ e => e) hs
  obtain ⟨I, ax, vs, m, news, lp, rfl, hne, hh, hax, hI, hIL, hoff, hst, hT, F, N, r⟩ := h₂
  exact els_loop (R := fun r s' => match r with | .ok f => Q f s' | .error e => cameBackBy (model prog w) A env E e s') hh hne hax hI hIL hoff hst hT F N (TE.monoE hE r)

theorem iter_els {ax : Addr} {vs : List Value} {m : Str → Option Value} {news : List (Addr × Obj)} (lp : Addr × Obj) (hh : A.handled = none) (hT : IsTup h₀ ax vs.toArray) (F : Fr h₀ env.locals s.heap m) (N : News h₀ env.locals s.heap news)
    (rest : ∀ I : Addr, (∀ p ∈ news, p.1 < I) → TE prog w A E h₀ env target body orelse Q s I lp vs m news) :
    wpAny (model prog w) A (pyIter (.ref ax)) (fun it s₂ => ElsAt prog w A h₀ env target body orelse Q E it s₂) E s := by
  have hl : s.heap.IsTuple ax vs.toArray := Heap.IsTuple.at hT fun o e => F.keep ax o e
  have hlt : ax < s.heap.objs.size := by obtain ⟨o, ho, _⟩ := hl; exact Heap.lt_size ho
  refine wpAny_pyIter_tuple hl ?_
  refine ⟨s.heap.objs.size, ax, vs, m, news, lp, rfl, Nat.ne_of_lt hlt, hh, ?_, ?_, ?_, ?_, ⟨_, Heap.get?_push_size _ rfl, rfl, rfl⟩, hT, F.push _, fun p hp => ⟨Heap.get?_push_of_some _ (N p hp).1, (N p hp).2⟩, TE_at.mpr (rest _ fun p hp => Heap.lt_size (N p hp).1)⟩
  · obtain ⟨o, ho, _⟩ := hT; exact ⟨o, ho⟩
  · exact next_is_new F
  · intro e; exact absurd F.ns.lt (e ▸ Nat.lt_irrefl _)
  · intro p hp e; exact absurd (Heap.lt_size (N p hp).1) (e ▸ Nat.lt_irrefl _)
theorem iter_elsK {K : Frag} {ax : Addr} {lo : Obj} {vs : List Value} {n : Nat} {m : Str → Option Value} {news : List (Addr × Obj)} {lp : Addr × Obj} (hh : A.handled = none) (F : Fr h₀ env.locals s.heap m) (N : News h₀ env.locals s.heap news) (X₀ : K.In h₀) (hk : K.lookup ax = some lo) (hc : lo.cls = .type "tuple") (hd : lo.data = .seq vs.toArray n)
    (_hm : lp ∈ news) (rest : ∀ I : Addr, (∀ p ∈ news, p.1 < I) → TE prog w A E h₀ env target body orelse Q s I lp vs m news) :
    wpAny (model prog w) A (pyIter (.ref ax)) (fun it s₂ => ElsAt prog w A h₀ env target body orelse Q E it s₂) E s :=
  iter_els lp hh ⟨lo, X₀ _ _ hk, hc, n, hd⟩ F N rest
theorem unrPost_mono {L I : Addr} {it : Obj} {s₁ : Shared} {r r' : (Str → Option Value) → List (Addr × Obj) → Prop} (h : ∀ m n, r m n → r' m n) (f : Flow) (s₂ : Shared) (x : UnrPost h₀ L s₁ I it r Q f s₂) : UnrPost h₀ L s₁ I it r' Q f s₂ := by
  have go : UnrEnd h₀ L s₁ I it r s₂ → UnrEnd h₀ L s₁ I it r' s₂ := by
    rintro ⟨h', tk, m', news', e, F', N', ho, x⟩
    exact ⟨h', tk, m', news', e, F', N', ho, h _ _ x⟩
  cases f with
  | ret v => exact x
  | brk => exact x
  | next => exact go x
  | cont => exact go x
/-- a for .. else's turns by an invariant over what is left, the frame and the ledger -/
theorem TE_inv {I : Addr} {lp : Addr × Obj} (J : List Value → (Str → Option Value) → List (Addr × Obj) → Prop)
    (step : ∀ v r m news, J (v :: r) m news → ∀ (it : Obj) h tk, it.cls = .type "tuple_iterator" → Fr h₀ env.locals h m → News h₀ env.locals h ((I, it) :: news) →
      wpAny (model prog w) A (assign target env v) (fun _ s₁ => wpAny (model prog w) A (execs body env) (UnrPost h₀ env.locals { s with heap := h, toks := tk } I it (fun m' n' => lp ∈ n' ∧ J r m' n') Q) E s₁) E { s with heap := h, toks := tk })
    (done : ∀ m news, J [] m news → ∀ h tk, Fr h₀ env.locals h m → News h₀ env.locals h news → wpAny (model prog w) A (execs orelse env) Q E { s with heap := h, toks := tk }) :
    ∀ (vs : List Value) (m : Str → Option Value) (news : List (Addr × Obj)), J vs m news → TE prog w A E h₀ env target body orelse Q s I lp vs m news
  | [], m, news, hJ => TE.zero (done m news hJ)
  | v :: r, m, news, hJ => TE.succ fun it h tk hc F N => wpAny_mono (step v r m news hJ it h tk hc F N) (fun _ s₁ y => wpAny_mono y (fun f s₂ z =>
      unrPost_mono (fun m' n' q => ⟨q.1, TE_inv J step done r m' n' q.2⟩) f s₂ z) fun _ _ e => e) fun _ _ e => e
end
end
end Mine
namespace Mine
section
open PySem.Calls PyProof.V
section
variable {prog : Program} {w : World} {A : Around} {E : Value → Shared → Prop} {s : Shared} {env : Env} {h₀ : Heap} {body : List Stmt} {Q : Flow → Shared → Prop}
def rangeItems (n : Nat) : List Itm := (List.range n).map fun (i : Nat) => Itm.tok fun t => .int (i : Int) t
theorem rangeItems_get {n i : Nat} (h : i < n) : (rangeItems n)[i]? = some (Itm.tok fun t => .int (i : Int) t) := by
  unfold rangeItems
  rw [List.getElem?_map, List.getElem?_range h]
  rfl
/-- for x in range(n) -/
theorem iter_rangeK {x : Str} {px : Pos} {r : Addr} {b : Int} {t u v : Tok} {n : Nat} {m₀ : Str → Option Value} {news : List (Addr × Obj)}
    (hh : A.handled = none) (hr : IsRange s.heap r 0 b 1 t u v) (hsmall : Builtin.Range.small 0 b 1 = true) (hn : Builtin.Range.rangeSize 0 b 1 = (n : Int)) (F : Fr h₀ env.locals s.heap m₀) (N : News h₀ env.locals s.heap news)
    (rest₀ : ∀ I : Addr, (∀ p ∈ news, p.1 < I) → ItemsRest prog w A E h₀ env (.Name x px) body Q s [(I, "range_iterator")] [] (rangeItems n) m₀ news) :
    wpAny (model prog w) A (pyIter (.ref r)) (fun it s₂ => TurnsAt prog w A h₀ env (.Name x px) body Q E it s₂) E s := by
  refine wpAny_pyIter_range hr hsmall ?_
  have hLs : env.locals < s.heap.objs.size := F.ns.lt
  refine ktu_core (tk0 := s.toks) (keep := []) (KTurns.ofWalks (Walks.range hh s.heap.objs.size 0 1 n).bound fun i v s Q E st q => ?_) (by simp [rangeItems]) ?_ ?_ ?_ ?_ ?_ ?_ ?_ ?_ (F.push _) (fun p hp => ⟨Heap.get?_push_of_some _ (N p hp).1, (N p hp).2⟩) trivial (rest₀ _ fun p hp => Heap.lt_size (N p hp).1)
  · exact wpAny_pure q
  · rintro i v h ⟨hi, t', rfl⟩
    refine ⟨_, rangeItems_get hi, t', ?_⟩
    rw [Int.mul_one, Int.zero_add]
  · intro i h st
    exact ⟨[(s.heap.objs.size, _)], ⟨⟨rfl, rfl⟩, trivial⟩, fun p hp => by rw [List.mem_singleton.mp hp]; exact st⟩
  · intro b hb
    have hb' : b = s.heap.objs.size := by simpa using hb
    rw [hb']
    exact ⟨List.mem_cons_self .., next_is_new F⟩
  · intro b hb
    simpa using hb
  · intro b hb
    have hb' : b = s.heap.objs.size := by simpa using hb
    exact .inl (by simp [hb'])
  · intro hI
    exact absurd F.ns.lt ((List.mem_singleton.mp hI) ▸ Nat.lt_irrefl _)
  · intro p hp hI
    exact absurd (Heap.lt_size (N p hp).1) ((List.mem_singleton.mp hI) ▸ Nat.lt_irrefl _)
  · show IsRangeIter _ _ _ _ _
    rw [hn]
    simpa using Heap.get?_push_size _ rfl
end
theorem rangeItems_at {n i : Nat} {a : Itm} (ha : (rangeItems n)[i]? = some a) : i < n ∧ a = Itm.tok fun t => .int (i : Int) t := by
  have hi : i < n := by
    rcases Nat.lt_or_ge i n with h | h
    · exact h
    · rw [List.getElem?_eq_none (by simpa [rangeItems] using h)] at ha; cases ha
  exact ⟨hi, (Option.some.inj ((rangeItems_get hi).symm.trans ha)).symm⟩
theorem news_keep0 {h₀ h : Heap} {L : Addr} {p1 : Addr × Obj} {news : List (Addr × Obj)} (N : News h₀ L h ([p1] ++ news)) : News h₀ L h [p1] := fun p hp => N p (List.mem_append_left _ hp)
end
end Mine
namespace Mine
section

/-- the walk's own words for a right's figure and for its special bit -/
def thr (n : Int) (k : Int) : Int := ((Builtin.bitAnd n 4095).fdiv (2 ^ (6 - 3 * k).toNat)).fmod 8
def spe (n : Int) (k : Int) : Int := ((Builtin.bitAnd n 4095).fdiv (2 ^ (11 - k).toNat)).fmod 2
def gray (n : Int) (k : Int) : Int := if (thr n k).fmod 2 = 1 then 3 - spe n k else spe n k
def pbF (n : Int) : Int :=
  (((kindIx (Builtin.bitAnd n 61440) : Int) * 16 + (thr n ((0 : Nat) : Int)).fdiv 2 * 4 + gray n ((0 : Nat) : Int)) * 16 + (thr n ((0 + 1 : Nat) : Int)).fdiv 2 * 4 + gray n ((0 + 1 : Nat) : Int)) * 16 + (thr n ((0 + 1 + 1 : Nat) : Int)).fdiv 2 * 4 + gray n ((0 + 1 + 1 : Nat) : Int)
def pbJ (n : Int) : Nat → Int
  | 0 => kindIx (Builtin.bitAnd n 61440)
  | k + 1 => pbJ n k * 16 + (thr n (k : Int)).fdiv 2 * 4 + gray n (k : Int)
theorem thr_le (n k : Int) : 0 ≤ thr n k ∧ thr n k < 8 := ⟨Int.fmod_nonneg_of_pos _ (by decide), Int.fmod_lt_of_pos _ (by decide)⟩
theorem spe_le (n k : Int) : 0 ≤ spe n k ∧ spe n k < 2 := ⟨Int.fmod_nonneg_of_pos _ (by decide), Int.fmod_lt_of_pos _ (by decide)⟩
theorem kindIx_lt (K : Int) : kindIx K < 8 := by
  unfold kindIx
  repeat' split
  all_goals decide
theorem pbJ_le (n : Int) : ∀ k, 0 ≤ pbJ n k ∧ pbJ n k < 8 * 16 ^ k
  | 0 => by
    have := kindIx_lt (Builtin.bitAnd n 61440)
    show (0 : Int) ≤ kindIx _ ∧ (kindIx _ : Int) < 8 * 16 ^ 0
    omega
  | k + 1 => by
    obtain ⟨h0, h1⟩ := pbJ_le n k
    obtain ⟨e0, e1⟩ := thr_le n (k : Int)
    obtain ⟨s0, s1⟩ := spe_le n (k : Int)
    have f : (thr n (k : Int)).fdiv 2 = thr n (k : Int) / 2 := Int.fdiv_eq_ediv_of_nonneg _ (by decide)
    simp only [pbJ, Int.pow_succ, f, gray]
    generalize (16 : Int) ^ k = c at h1 ⊢
    split <;> omega
def BJ (n : Int) (m0 : Str → Option Value) (i : Nat) (m : Str → Option Value) (_ : List (Addr × Obj)) : Prop :=
  ∃ (u : Str → Option Value) (tp : Tok), m = fun y => if y = Str.ofString "step" then u y else if y = Str.ofString "three" then u y else if y = Str.ofString "special" then u y else if y = Str.ofString "place" then some (.int (pbJ n i) tp) else m0 y
theorem BJ.of {n p : Int} {m0 m : Str → Option Value} {i : Nat} {news : List (Addr × Obj)} {tp : Tok} (h1 : m (Str.ofString "place") = some (.int p tp)) (hp : p = pbJ n i)
    (hm : ∀ y, y ≠ Str.ofString "step" → y ≠ Str.ofString "three" → y ≠ Str.ofString "special" → y ≠ Str.ofString "place" → m y = m0 y) : BJ n m0 i m news := by
  subst hp
  refine ⟨m, tp, ?_⟩
  funext y
  by_cases e1 : y = Str.ofString "step"
  · rw [if_pos e1]
  by_cases e2 : y = Str.ofString "three"
  · rw [if_neg e1, if_pos e2]
  by_cases e3 : y = Str.ofString "special"
  · rw [if_neg e1, if_neg e2, if_pos e3]
  by_cases e4 : y = Str.ofString "place"
  · rw [if_neg e1, if_neg e2, if_neg e3, if_pos e4, e4]; exact h1
  rw [if_neg e1, if_neg e2, if_neg e3, if_neg e4]
  exact hm y e1 e2 e3 e4
theorem cBITS (w mean mg mb) (n : Int) (t : Tok) : Cl w mean mg mb 152 [.int n t] (fun t => .int (pbF n) t) := by
  w_top off
  k_with_none
  k_with "storeName" => (k_here; k_dflt (first
    | (refine' stI (by k_asm) (by k_asm) ?_ (by rfl) (by rfl); k_whole; intro t' tk' h' mk F' N'; (try k_sweep))
    | (refine' stV (by k_asm) (by k_asm) ?_ (by rfl) (by rfl); k_whole; intro tk' h' mk F' N'; (try k_sweep))))
  k_with "exec For Name Call cons nil" => (k_here; (rename Fr _ _ _ _ => lF'); (with_unfolding_all refine' For_turns lF' ?_; k_whole))
  k_with "compareOp NotIn bool ref" => (k_here; k_dflt (refine' notIn_said (by k_asm) (by k_mem) ?_; k_whole))
  k_with "call builtin:list.count" => (k_here; k_dflt (refine' count_said (by k_asm) (by k_mem) ?_; k_whole))
  k_with "call builtin:list.index" => (k_here; k_dflt (refine' index_said (by k_asm) (by k_mem) ?_; k_whole))
  unfold Cl
  k_fill
  intro cn cs a ccd base h₀ L m s Q E hB hF hX hT hk hret
  (k_dflt (refine' enter0 (binds := [(Str.ofString "mode", .int n t)]) hB hF hX hT hk ?k6 ?k7 ?k9 ?kB ?_ ?c2 ?c3 ?c4 ?c5; (case k6 => k_is); (case k7 => k_is); (case k9 => exact BindsTo.of_eq rfl); (case c5 => decide); (case kB => exact locs rfl); (case c2 => exact rfl); (case c3 => exact rfl); (case c4 => exact rfl)))
  intro g' L' h' tk' hG FG' F' N' B' X' T'
  (try dsimp only)
  (try k_lift B')
  (try k_fold)
  repeat' (first | (k_unfold; (try dsimp only)) | (k_end; wrow_close) | ((with_reducible show wpAny _ _ (execs _ _) _ _ _); k_fold) | walk1 | (dsimp only; walk1) | (leave1; walk_say "STEP leave1"; try dsimp only) | fail "no step")
  rename IsRange _ _ _ _ _ _ _ _ => hr'
  rename Fr _ _ _ _ => lF'
  rename News _ _ _ _ => lN'
  refine iter_rangeK (n := 3) (by rfl) hr' (by decide) (by rfl) lF' lN' ?_
  intro I hI
  k_lt hI
  refine itemsRest_inv (BJ n mk) ?_ ?_ 3 0 _ _ rfl trivial (BJ.of (by with_unfolding_all rfl) rfl (fun y h1 h2 h3 h4 => by rfl))
  · clear lF' lN' hr'
    intro i a m1 news1 ha hJ _ v h tk hv F2
    obtain ⟨v0, tp, rfl⟩ := hJ
    obtain ⟨hi, rfl⟩ := rangeItems_at ha
    clear ha
    obtain ⟨tt, rfl⟩ := hv
    refine AllObj.cons fun o1 hc1 => AllObj.nil fun N3 => ?_
    have N4 := news_keep0 N3
    clear N3
    try dsimp only at hc1
    have hp := pbJ_le n i
    have hp1 : pbJ n i < 2048 := Int.lt_of_lt_of_le hp.2 ((show ∀ k, k < 3 → (8 : Int) * 16 ^ k ≤ 2048 by decide) i hi)
    replace hp := hp.1
    (try k_fold)
    repeat' (first | (k_unfold; (try dsimp only)) | (k_end; wrow_close) | ((with_reducible show wpAny _ _ (execs _ _) _ _ _); k_fold) | walk1 | (dsimp only; walk1) | (leave1; walk_say "STEP leave1"; try dsimp only) | fail "no step")
    all_goals (
      refine BJ.of (by with_unfolding_all rfl) ?_ (fun y h1 h2 h3 h4 => by simp +zetaDelta only [h1, h2, h3, h4, if_false])
      first | exact congrArg _ (if_pos (by assumption)).symm | exact congrArg _ (if_neg (by assumption)).symm)
  · intro m1 news1 hJ h tk F3 N3
    obtain ⟨v0, tp, rfl⟩ := hJ
    repeat' (first | (k_unfold; (try dsimp only)) | (k_end; wrow_close) | ((with_reducible show wpAny _ _ (execs _ _) _ _ _); k_fold) | walk1 | (dsimp only; walk1) | (leave1; walk_say "STEP leave1"; try dsimp only) | fail "no step")
    refine retI hret ?_ (by k_asm) hG (by k_asm)
    rfl
end
end Mine
namespace Mine
section
def fou (p : Int) (k : Int) : Int := (p.fdiv (2 ^ (8 - 4 * k).toNat)).fmod 16
def lmF (p k : Int) : Int :=
  ([8, k, 6, 2, 4, 10, 1, 12].getD (p.fdiv 4096).toNat 0 * 8 +
    (((0 * 2 + (((fou p ((0 : Nat) : Int)).fdiv 2).fmod 2 + fou p ((0 : Nat) : Int)).fmod 2) * 2 + (((fou p ((0 + 1 : Nat) : Int)).fdiv 2).fmod 2 + fou p ((0 + 1 : Nat) : Int)).fmod 2) * 2 + (((fou p ((0 + 1 + 1 : Nat) : Int)).fdiv 2).fmod 2 + fou p ((0 + 1 + 1 : Nat) : Int)).fmod 2)) * 512 +
  (((0 * 8 + (fou p ((0 : Nat) : Int)).fdiv 4 * 2 + ((fou p ((0 : Nat) : Int)).fdiv 2).fmod 2) * 8 + (fou p ((0 + 1 : Nat) : Int)).fdiv 4 * 2 + ((fou p ((0 + 1 : Nat) : Int)).fdiv 2).fmod 2) * 8 + (fou p ((0 + 1 + 1 : Nat) : Int)).fdiv 4 * 2 + ((fou p ((0 + 1 + 1 : Nat) : Int)).fdiv 2).fmod 2)
def spJ (p : Int) : Nat → Int
  | 0 => 0
  | k + 1 => spJ p k * 2 + (((fou p (k : Int)).fdiv 2).fmod 2 + fou p (k : Int)).fmod 2
def fiJ (p : Int) : Nat → Int
  | 0 => 0
  | k + 1 => fiJ p k * 8 + (fou p (k : Int)).fdiv 4 * 2 + ((fou p (k : Int)).fdiv 2).fmod 2
theorem spJ_le (p : Int) : ∀ k, 0 ≤ spJ p k ∧ spJ p k < 2 ^ k
  | 0 => by show (0 : Int) ≤ 0 ∧ (0 : Int) < 2 ^ 0; decide
  | k + 1 => by
    obtain ⟨h0, h1⟩ := spJ_le p k
    have g0 := Int.fmod_nonneg_of_pos (((fou p (k : Int)).fdiv 2).fmod 2 + fou p (k : Int)) (b := 2) (by decide)
    have g1 := Int.fmod_lt_of_pos (((fou p (k : Int)).fdiv 2).fmod 2 + fou p (k : Int)) (b := 2) (by decide)
    simp only [spJ, Int.pow_succ]
    generalize (2 : Int) ^ k = c at h1 ⊢
    omega
theorem fiJ_le (p : Int) : ∀ k, 0 ≤ fiJ p k ∧ fiJ p k < 8 ^ k
  | 0 => by show (0 : Int) ≤ 0 ∧ (0 : Int) < 8 ^ 0; decide
  | k + 1 => by
    obtain ⟨h0, h1⟩ := fiJ_le p k
    have g0 := Int.fmod_nonneg_of_pos ((fou p (k : Int)).fdiv 2) (b := 2) (by decide)
    have g1 := Int.fmod_lt_of_pos ((fou p (k : Int)).fdiv 2) (b := 2) (by decide)
    have e0 : 0 ≤ fou p (k : Int) := Int.fmod_nonneg_of_pos _ (by decide)
    have e1 : fou p (k : Int) < 16 := Int.fmod_lt_of_pos _ (by decide)
    have f0 : 0 ≤ (fou p (k : Int)).fdiv 4 := Int.fdiv_nonneg e0 (by decide)
    have f1 : (fou p (k : Int)).fdiv 4 ≤ 3 := by
      rw [Int.fdiv_eq_ediv_of_nonneg _ (by decide)]; omega
    simp only [fiJ, Int.pow_succ]
    generalize (8 : Int) ^ k = c at h1 ⊢
    omega
def LMJ (p : Int) (m0 : Str → Option Value) (i : Nat) (m : Str → Option Value) (_ : List (Addr × Obj)) : Prop :=
  ∃ (u : Str → Option Value) (ts tf : Tok), m = fun y => if y = Str.ofString "step" then u y else if y = Str.ofString "four" then u y else if y = Str.ofString "runs" then u y else if y = Str.ofString "specials" then some (.int (spJ p i) ts) else if y = Str.ofString "figures" then some (.int (fiJ p i) tf) else m0 y
theorem LMJ.of {p : Int} {m0 m : Str → Option Value} {i : Nat} {news : List (Addr × Obj)} {ts tf : Tok} (h1 : m (Str.ofString "specials") = some (.int (spJ p i) ts)) (h2 : m (Str.ofString "figures") = some (.int (fiJ p i) tf))
    (hm : ∀ y, y ≠ Str.ofString "step" → y ≠ Str.ofString "four" → y ≠ Str.ofString "runs" → y ≠ Str.ofString "specials" → y ≠ Str.ofString "figures" → m y = m0 y) : LMJ p m0 i m news := by
  refine ⟨m, ts, tf, ?_⟩
  funext y
  by_cases e1 : y = Str.ofString "step"
  · rw [if_pos e1]
  by_cases e2 : y = Str.ofString "four"
  · rw [if_neg e1, if_pos e2]
  by_cases e3 : y = Str.ofString "runs"
  · rw [if_neg e1, if_neg e2, if_pos e3]
  by_cases e4 : y = Str.ofString "specials"
  · rw [if_neg e1, if_neg e2, if_neg e3, if_pos e4, e4]; exact h1
  by_cases e5 : y = Str.ofString "figures"
  · rw [if_neg e1, if_neg e2, if_neg e3, if_neg e4, if_pos e5, e5]; exact h2
  rw [if_neg e1, if_neg e2, if_neg e3, if_neg e4, if_neg e5]
  exact hm y e1 e2 e3 e4 e5
theorem cLM (w mean mg mb) (n k : Int) (t u : Tok) (hn0 : 0 ≤ n) (hn1 : n < 32768) : Cl w mean mg mb 166 [.int n t, .int k u] (fun t => .int (lmF n k) t) := by
  w_top off
  k_with_none
  k_with "storeName" => (k_here; k_dflt (first
    | (refine' stI (by k_asm) (by k_asm) ?_ (by rfl) (by rfl); k_whole; intro t' tk' h' mk F' N'; (try k_sweep))
    | (refine' stV (by k_asm) (by k_asm) ?_ (by rfl) (by rfl); k_whole; intro tk' h' mk F' N'; (try k_sweep))))
  k_with "exec For Name Call cons nil" => (k_here; (rename Fr _ _ _ _ => lF'); (with_unfolding_all refine' For_turns lF' ?_; k_whole))
  unfold Cl
  k_fill
  intro cn cs a ccd base h₀ L m s Q E hB hF hX hT hk hret
  (k_dflt (refine' enter0 (binds := [(Str.ofString "place", .int n t), (Str.ofString "strange", .int k u)]) hB hF hX hT hk ?k6 ?k7 ?k9 ?kB ?_ ?c2 ?c3 ?c4 ?c5; (case k6 => k_is); (case k7 => k_is); (case k9 => exact BindsTo.of_eq rfl); (case c5 => decide); (case kB => exact locs rfl); (case c2 => exact rfl); (case c3 => exact rfl); (case c4 => exact rfl)))
  intro g' L' h' tk' hG FG' F' N' B' X' T'
  (try dsimp only)
  (try k_lift B')
  (try k_fold)
  repeat' (first | (k_unfold; (try dsimp only)) | (k_end; wrow_close) | ((with_reducible show wpAny _ _ (execs _ _) _ _ _); k_fold) | walk1 | (dsimp only; walk1) | (leave1; walk_say "STEP leave1"; try dsimp only) | fail "no step")
  rename IsRange _ _ _ _ _ _ _ _ => hr'
  rename Fr _ _ _ _ => lF'
  rename News _ _ _ _ => lN'
  refine iter_rangeK (n := 3) (by rfl) hr' (by decide) (by rfl) lF' lN' ?_
  intro I hI
  k_lt hI
  refine itemsRest_inv (LMJ n mk) ?_ ?_ 3 0 _ _ rfl trivial (LMJ.of (by with_unfolding_all rfl) (by with_unfolding_all rfl) (fun y h1 h2 h3 h4 h5 => by simp +zetaDelta only [h4, h5, if_false]))
  · clear lF' lN' hr'
    intro i a m1 news1 ha hJ _ v h tk hv F2
    obtain ⟨v0, ts, tf, rfl⟩ := hJ
    obtain ⟨hi, rfl⟩ := rangeItems_at ha
    clear ha
    obtain ⟨tt, rfl⟩ := hv
    refine AllObj.cons fun o1 hc1 => AllObj.nil fun N3 => ?_
    have N4 := news_keep0 N3
    clear N3
    try dsimp only at hc1
    have hs := spJ_le n i
    have hf := fiJ_le n i
    have hs1 : spJ n i < 4 := Int.lt_of_lt_of_le hs.2 ((show ∀ k, k < 3 → (2 : Int) ^ k ≤ 4 by decide) i hi)
    have hf1 : fiJ n i < 64 := Int.lt_of_lt_of_le hf.2 ((show ∀ k, k < 3 → (8 : Int) ^ k ≤ 64 by decide) i hi)
    replace hs := hs.1
    replace hf := hf.1
    (try k_fold)
    repeat' (first | (k_unfold; (try dsimp only)) | (k_end; wrow_close) | ((with_reducible show wpAny _ _ (execs _ _) _ _ _); k_fold) | walk1 | (dsimp only; walk1) | (leave1; walk_say "STEP leave1"; try dsimp only) | fail "no step")
    all_goals (
      refine LMJ.of (by with_unfolding_all rfl) (by with_unfolding_all rfl) (fun y h1 h2 h3 h4 h5 => by simp +zetaDelta only [h1, h2, h3, h4, h5, if_false]))
  · intro m1 news1 hJ h tk F3 N3
    obtain ⟨v0, ts, tf, rfl⟩ := hJ
    repeat' (first | (k_unfold; (try dsimp only)) | (k_end; wrow_close) | ((with_reducible show wpAny _ _ (execs _ _) _ _ _); k_fold) | walk1 | (dsimp only; walk1) | (leave1; walk_say "STEP leave1"; try dsimp only) | fail "no step")
    refine retI hret ?_ (by k_asm) hG (by k_asm)
    rfl
end
end Mine
namespace Mine
section
def signF (n : Int) : Nat → Str
  | 0 => if Builtin.bitAnd n 61440 = 40960 then Str.ofString "l" else if Builtin.bitAnd n 61440 = 49152 then Str.ofString "s" else if Builtin.bitAnd n 61440 = 32768 then Str.ofString "-" else
         if Builtin.bitAnd n 61440 = 24576 then Str.ofString "b" else if Builtin.bitAnd n 61440 = 16384 then Str.ofString "d" else if Builtin.bitAnd n 61440 = 8192 then Str.ofString "c" else if Builtin.bitAnd n 61440 = 4096 then Str.ofString "p" else Str.ofString "?"
  | 1 => if Builtin.bitAnd n 256 = 256 then Str.ofString "r" else Str.ofString "-"
  | 2 => if Builtin.bitAnd n 128 = 128 then Str.ofString "w" else Str.ofString "-"
  | 3 => if Builtin.bitAnd n 2112 = 2112 then Str.ofString "s" else if Builtin.bitAnd n 2048 = 2048 then Str.ofString "S" else if Builtin.bitAnd n 64 = 64 then Str.ofString "x" else Str.ofString "-"
  | 4 => if Builtin.bitAnd n 32 = 32 then Str.ofString "r" else Str.ofString "-"
  | 5 => if Builtin.bitAnd n 16 = 16 then Str.ofString "w" else Str.ofString "-"
  | 6 => if Builtin.bitAnd n 1032 = 1032 then Str.ofString "s" else if Builtin.bitAnd n 1024 = 1024 then Str.ofString "S" else if Builtin.bitAnd n 8 = 8 then Str.ofString "x" else Str.ofString "-"
  | 7 => if Builtin.bitAnd n 4 = 4 then Str.ofString "r" else Str.ofString "-"
  | 8 => if Builtin.bitAnd n 2 = 2 then Str.ofString "w" else Str.ofString "-"
  | _ => if Builtin.bitAnd n 513 = 513 then Str.ofString "t" else if Builtin.bitAnd n 512 = 512 then Str.ofString "T" else if Builtin.bitAnd n 1 = 1 then Str.ofString "x" else Str.ofString "-"
def signsL (n : Int) (i : Nat) : List Str := (List.range i).map (signF n)
theorem signsL_succ (n : Int) (i : Nat) : signsL n (i + 1) = signsL n i ++ [signF n i] := by
  unfold signsL; rw [List.range_succ, List.map_append]; rfl
def rowS (n : Int) : Str := Txt.join (Str.ofString "") (signsL n 10)
theorem signF_len (n : Int) (i : Nat) : (signF n i).length = 1 := by
  unfold signF
  repeat' split
  all_goals rfl
theorem signs_fit (n : Int) : ((signsL n 10).map (·.length)).sum + (signsL n 10).length ≤ 1048576 := by
  have e : (signsL n 10).map (·.length) = List.replicate 10 1 := by
    unfold signsL
    rw [List.map_map]
    simp only [Function.comp_def, signF_len]
    rfl
  rw [e]
  simp [signsL]
/-- the table's rows: where they lie, and their entries (where each lies, its bits, its sign) -/
def rowT (i : Nat) : Addr × List (Addr × Int × Str) :=
  [((106 : Addr), [((99 : Addr), (40960 : Int), Str.ofString "l"), (100, 49152, Str.ofString "s"), (101, 32768, Str.ofString "-"), (102, 24576, Str.ofString "b"), (103, 16384, Str.ofString "d"), (104, 8192, Str.ofString "c"), (105, 4096, Str.ofString "p")]),
    (108, [(107, 256, Str.ofString "r")]), (110, [(109, 128, Str.ofString "w")]), (114, [(111, 2112, Str.ofString "s"), (112, 2048, Str.ofString "S"), (113, 64, Str.ofString "x")]),
    (116, [(115, 32, Str.ofString "r")]), (118, [(117, 16, Str.ofString "w")]), (122, [(119, 1032, Str.ofString "s"), (120, 1024, Str.ofString "S"), (121, 8, Str.ofString "x")]),
    (124, [(123, 4, Str.ofString "r")]), (126, [(125, 2, Str.ofString "w")]), (130, [(127, 513, Str.ofString "t"), (128, 512, Str.ofString "T"), (129, 1, Str.ofString "x")])].getD i (0, [])
def Good (g : Heap) (e : Addr × Int × Str) : Prop := (∃ t t' : Tok, IsTup g e.1 #[.int e.2.1 t, .str e.2.2 t']) ∧ 0 ≤ e.2.1 ∧ e.2.1 < 65536
theorem goodAll {p : Params} {g : Heap} (X : (hd.heap_39 p).In g) : ∀ i, i < 10 → IsTup g (rowT i).1 ((rowT i).2.map fun e => Value.ref e.1).toArray ∧ ∀ e ∈ (rowT i).2, Good g e := by
  intro i hi
  have hi' : i = 0 ∨ i = 1 ∨ i = 2 ∨ i = 3 ∨ i = 4 ∨ i = 5 ∨ i = 6 ∨ i = 7 ∨ i = 8 ∨ i = 9 := by omega
  rcases hi' with rfl | rfl | rfl | rfl | rfl | rfl | rfl | rfl | rfl | rfl <;> refine ⟨⟨_, X _ _ rfl, rfl, 0, rfl⟩, ?_⟩ <;> (
    repeat' (first | exact List.forall_mem_nil _ | refine List.forall_mem_cons.mpr ⟨⟨⟨_, _, _, X _ _ rfl, rfl, 0, rfl⟩, by decide, by decide⟩, ?_⟩))
def pickE (i : Nat) (n : Int) (es : List (Addr × Int × Str)) : Str :=
  if i = 0 then es.foldr (fun e r => if Builtin.bitAnd n 61440 = e.2.1 then e.2.2 else r) (Str.ofString "?") else es.foldr (fun e r => if Builtin.bitAnd n e.2.1 = e.2.1 then e.2.2 else r) (Str.ofString "-")
theorem pick_row (n : Int) : ∀ i, i < 10 → pickE i n (rowT i).2 = signF n i
  | 0, _ => rfl | 1, _ => rfl | 2, _ => rfl | 3, _ => rfl | 4, _ => rfl | 5, _ => rfl | 6, _ => rfl | 7, _ => rfl | 8, _ => rfl | 9, _ => rfl
section
variable {i : Nat} {n b : Int} {a : Addr} {ch : Str} {es : List (Addr × Int × Str)}
theorem pick0_hit (hi : i = 0) (h : Builtin.bitAnd n 61440 = b) : pickE i n ((a, b, ch) :: es) = ch := by
  unfold pickE; rw [if_pos hi, List.foldr_cons, if_pos h]
theorem pick0_miss (hi : i = 0) (h : Builtin.bitAnd n 61440 ≠ b) : pickE i n ((a, b, ch) :: es) = pickE i n es := by
  unfold pickE; rw [if_pos hi, if_pos hi, List.foldr_cons, if_neg h]
theorem pick1_hit (hi : i ≠ 0) (h : Builtin.bitAnd n b = b) : pickE i n ((a, b, ch) :: es) = ch := by
  unfold pickE; rw [if_neg hi, List.foldr_cons, if_pos h]
theorem pick1_miss (hi : i ≠ 0) (h : Builtin.bitAnd n b ≠ b) : pickE i n ((a, b, ch) :: es) = pickE i n es := by
  unfold pickE; rw [if_neg hi, if_neg hi, List.foldr_cons, if_neg h]
theorem pick0_nil (hi : i = 0) : pickE i n [] = Str.ofString "?" := by unfold pickE; rw [if_pos hi]; rfl
theorem pick1_nil (hi : i ≠ 0) : pickE i n [] = Str.ofString "-" := by unfold pickE; rw [if_neg hi]; rfl
end
def rowsV : List Value := [.ref 106, .ref 108, .ref 110, .ref 114, .ref 116, .ref 118, .ref 122, .ref 124, .ref 126, .ref 130]
theorem rowsV_at : ∀ i, i < 10 → rowsV[i]? = some (.ref (rowT i).1)
  | 0, _ => rfl | 1, _ => rfl | 2, _ => rfl | 3, _ => rfl | 4, _ => rfl | 5, _ => rfl | 6, _ => rfl | 7, _ => rfl | 8, _ => rfl | 9, _ => rfl
theorem enumRows_at {i : Nat} {a : Itm} (ha : (enumItems 0 rowsV)[i]? = some a) : i < 10 ∧ a = .pair (fun t => .int (i : Int) t) (.ref (rowT i).1) := by
  have hi : i < 10 := by
    rcases Nat.lt_or_ge i 10 with h | h
    · exact h
    · rw [List.getElem?_eq_none (by rw [enumItems_length]; exact h)] at ha; cases ha
  have h1 := enumItems_get rowsV 0 i (rowsV_at i hi)
  rw [h1, Nat.zero_add] at ha
  exact ⟨hi, (Option.some.inj ha).symm⟩
def FMJ (l : Addr) (n : Int) (t : Tok) (i : Nat) (m : Str → Option Value) (news : List (Addr × Obj)) : Prop :=
  (∃ u : Str → Option Value, m = fun y => if y = Str.ofString "char" then u y else if y = Str.ofString "bit" then u y else if y = Str.ofString "table" then u y else if y = Str.ofString "index" then u y else if y = Str.ofString "perm" then some (.ref l) else if y = Str.ofString "mode" then some (.int n t) else none) ∧
  ∃ vs c, (l, W.listOf (List.toArray vs) c) ∈ news ∧ StrsAre vs (signsL n i)
theorem strsAre_snoc : ∀ {vs : List Value} {ys : List Str} (x : Str) (t : Tok), StrsAre vs ys → StrsAre (vs ++ [.str x t]) (ys ++ [x])
  | _, _, x, t, .nil => .cons x t .nil
  | _, _, x, t, .cons y u h => .cons y u (strsAre_snoc x t h)
theorem lookup1 (a y : Str) (v : Value) : List.lookup y [(a, v)].reverse = if y = a then some v else none := by
  show (match y == a with | true => some v | false => List.lookup y []) = _
  by_cases h : y = a
  · rw [if_pos h]; subst h; simp
  · rw [if_neg h]
    have : (y == a) = false := by simpa using h
    rw [this]; rfl
theorem FMJ.start {l : Addr} {n : Int} {t : Tok} {c : Nat} : FMJ l n t 0 (fun y => if y = Str.ofString "perm" then some (.ref l) else List.lookup y [(Str.ofString "mode", Value.int n t)].reverse) [(l, W.listOf #[] c)] := by
  refine ⟨⟨fun y => if y = Str.ofString "perm" then some (.ref l) else List.lookup y [(Str.ofString "mode", Value.int n t)].reverse, ?_⟩, [], c, List.Mem.head _, .nil⟩
  funext y
  by_cases h1 : y = Str.ofString "char"
  · rw [if_pos h1]
  by_cases h2 : y = Str.ofString "bit"
  · rw [if_neg h1, if_pos h2]
  by_cases h3 : y = Str.ofString "table"
  · rw [if_neg h1, if_neg h2, if_pos h3]
  by_cases h4 : y = Str.ofString "index"
  · rw [if_neg h1, if_neg h2, if_neg h3, if_pos h4]
  rw [if_neg h1, if_neg h2, if_neg h3, if_neg h4, lookup1]
/-- between the turns over one row's entries -/
def FJ (g : Heap) (l : Addr) (n : Int) (t ti : Tok) (i : Nat) (ps : List (Addr × Obj)) (vs : List Value) (m : Str → Option Value) (news : List (Addr × Obj)) : Prop :=
  (∃ u : Str → Option Value, m = fun y => if y = Str.ofString "char" then u y else if y = Str.ofString "bit" then u y else if y = Str.ofString "table" then u y else if y = Str.ofString "index" then some (.int (i : Int) ti) else if y = Str.ofString "perm" then some (.ref l) else if y = Str.ofString "mode" then some (.int n t) else none) ∧
  (∀ p ∈ ps, p ∈ news) ∧ ∃ es : List (Addr × Int × Str), vs = es.map (fun e => .ref e.1) ∧ (∀ e ∈ es, Good g e) ∧ pickE i n es = signF n i
theorem dirty3 {m f : Str → Option Value} {a b c : Str} (hm : ∀ y, y ≠ a → y ≠ b → y ≠ c → m y = f y) : m = fun y => if y = a then m y else if y = b then m y else if y = c then m y else f y := by
  funext y
  by_cases h1 : y = a
  · rw [if_pos h1]
  by_cases h2 : y = b
  · rw [if_neg h1, if_pos h2]
  by_cases h3 : y = c
  · rw [if_neg h1, if_neg h2, if_pos h3]
  rw [if_neg h1, if_neg h2, if_neg h3]
  exact hm y h1 h2 h3
theorem dirty4 {m f : Str → Option Value} {a b c d : Str} (hm : ∀ y, y ≠ a → y ≠ b → y ≠ c → y ≠ d → m y = f y) : m = fun y => if y = a then m y else if y = b then m y else if y = c then m y else if y = d then m y else f y := by
  funext y
  by_cases h1 : y = a
  · rw [if_pos h1]
  by_cases h2 : y = b
  · rw [if_neg h1, if_pos h2]
  by_cases h3 : y = c
  · rw [if_neg h1, if_neg h2, if_pos h3]
  by_cases h4 : y = d
  · rw [if_neg h1, if_neg h2, if_neg h3, if_pos h4]
  rw [if_neg h1, if_neg h2, if_neg h3, if_neg h4]
  exact hm y h1 h2 h3 h4
theorem FMJ.of {l : Addr} {n : Int} {t tk : Tok} {i c : Nat} {news : List (Addr × Obj)} {m' : Str → Option Value} {vs : List Value} {x : Str}
    (hm : ∀ y, y ≠ Str.ofString "char" → y ≠ Str.ofString "bit" → y ≠ Str.ofString "table" → y ≠ Str.ofString "index" → m' y = if y = Str.ofString "perm" then some (.ref l) else if y = Str.ofString "mode" then some (.int n t) else none)
    (hs : StrsAre vs (signsL n i)) (hn : (l, W.listOf (vs.toArray.push (.str x tk)) (c + 1)) ∈ news) (hx : x = signF n i) : FMJ l n t (i + 1) m' news := by
  subst hx
  exact ⟨⟨m', dirty4 hm⟩, vs ++ [.str (signF n i) tk], c + 1, by rw [List.push_toArray] at hn; exact hn, by rw [signsL_succ]; exact strsAre_snoc _ _ hs⟩
theorem cFM (w mean mg mb) (n : Int) (t : Tok) (h0 : 0 ≤ n) (h1 : n < 65536) : Cl w mean mg mb 138 [.int n t] (fun t => .str (rowS n) t) := by
  w_top off
  k_with_none
  k_with "storeName" => (k_here; k_dflt (first
    | (refine' stI (by k_asm) (by k_asm) ?_ (by rfl) (by rfl); k_whole; intro t' tk' h' mk F' N'; (try k_sweep))
    | (refine' stV (by k_asm) (by k_asm) ?_ (by rfl) (by rfl); k_whole; intro tk' h' mk F' N'; (try k_sweep))))
  k_with "exec For Tuple Call cons nil" => (k_here; (rename Fr _ _ _ _ => lF'); (with_unfolding_all refine' For_turns lF' ?_; k_whole))
  k_with "exec For Tuple Name cons cons" => (k_here; (rename Fr _ _ _ _ => lF'); (with_unfolding_all refine' For_els lF' ?_; k_whole))
  k_with "call builtin:list.append" => (k_here; (with_reducible show wpAny _ _ (call (Value.builtin _) [Value.ref _, _]) _ _ _); k_dflt (refine' append_K (by k_asm) (by k_asm) (by k_upd) ?_ (by simp only [List.size_toArray, sizeLine_eq]; omega); k_whole); intro h' F' N'; (try k_sweep))
  k_with "call ref" => (k_here; (with_reducible show wpAny _ _ (call (Value.ref 28) _) _ _ _); k_dflt (with_reducible refine' Cl.news (kIF _ _ _ _ _ _) (by k_asm) (by k_asm) (by k_asm) (by k_asm) rfl (by k_asm) ?_); intro t' h' tk' F' N'; (try k_sweep))
  unfold Cl
  k_fill
  intro cn cs a ccd base h₀ L m s Q E hB hF hX hT hk hret
  (k_dflt (refine' enter0 (binds := [(Str.ofString "mode", .int n t)]) hB hF hX hT hk ?k6 ?k7 ?k9 ?kB ?_ ?c2 ?c3 ?c4 ?c5; (case k6 => k_is); (case k7 => k_is); (case k9 => exact BindsTo.of_eq rfl); (case c5 => decide); (case kB => exact locs rfl); (case c2 => exact rfl); (case c3 => exact rfl); (case c4 => exact rfl)))
  intro g' L' h' tk' hG FG' F' N' B' X' T'
  (try dsimp only)
  (try k_lift B')
  (try k_fold)
  k_steps
  rename_i l' _ _
  refine enumTupK (lo := _) (vs := rowsV) (n := 0) (by rfl) lF' N' (X' 131 _ rfl) rfl rfl ?_
  clear lF' N'
  intro I hI
  k_lt hI
  refine itemsRest_inv (FMJ l' n t) ?_ ?_ 10 0 _ _ rfl trivial FMJ.start
  · intro i a m1 news1 ha hJ _ v h tk hv F2
    obtain ⟨⟨u, rfl⟩, vs, c, hmem, hvs⟩ := hJ
    obtain ⟨hi, rfl⟩ := enumRows_at ha
    clear ha
    obtain ⟨T, tt, rfl, hT'⟩ := hv
    obtain ⟨hR, hE⟩ := goodAll X' i hi
    have hP := pick_row n i hi
    have hlen := hvs.length
    simp only [signsL, List.length_map, List.length_range] at hlen
    refine AllObj.cons fun o1 hc1 => AllObj.cons fun o2 hc2 => AllObj.nil fun N3 => ?_
    have N4 : News g' L' h [(I + 1, o1), (I, o2), (l', W.listOf vs.toArray c)] := by
      intro p hp
      rcases List.mem_cons.mp hp with rfl | hp
      · exact N3 _ (List.Mem.head _)
      rcases List.mem_cons.mp hp with rfl | hp
      · exact N3 _ (List.Mem.tail _ (List.Mem.head _))
      · rw [List.mem_singleton.mp hp]
        exact N3 _ (List.mem_append_right _ hmem)
    clear N3
    try dsimp only at hc1 hc2
    replace hT' : IsTup h T #[.int (i : Int) tt, .ref (rowT i).1] := hT'
    (try k_fold)
    k_steps
    refine iter_els (lp := (l', W.listOf vs.toArray c)) (by rfl) hR lF' N' ?_
    intro I2 hI2
    k_lt hI2
    refine TE_inv (FJ g' l' n t t' i [(I + 1, o1), (I, o2), (l', W.listOf vs.toArray c)]) ?_ ?_ _ _ _ ⟨⟨_, dirty3 (fun y h1 h2 h3 => ?_)⟩, fun p hp => hp, _, rfl, hE, hP⟩
    · clear lF' N' hE hP hT' hR
      intro v r m2 news2 hJ2 it h2 tk2 hit F6 N6
      obtain ⟨⟨u2, rfl⟩, hps, es, hes, hGd, hpk⟩ := hJ2
      cases es with
      | nil => cases hes
      | cons e es =>
        obtain ⟨a2, b, ch⟩ := e
        obtain ⟨rfl, rfl⟩ := List.cons.inj hes
        clear hes
        obtain ⟨⟨tb, tc, hT2⟩, hb0, hb1⟩ := hGd _ (List.Mem.head _)
        replace hT2 : IsTup h2 a2 #[.int b tb, .str ch tc] := hT2.keeps F6.keep
        have hGd' : ∀ e ∈ es, Good g' e := fun e he => hGd e (List.Mem.tail _ he)
        clear hGd
        have N7 : News g' L' h2 [(I2, it), (I + 1, o1), (I, o2), (l', W.listOf vs.toArray c)] := by
          intro p hp
          rcases List.mem_cons.mp hp with rfl | hp
          · exact N6 _ (List.Mem.head _)
          · exact N6 _ (List.Mem.tail _ (hps p hp))
        clear N6 hps
        dsimp only
        rcases Nat.eq_zero_or_pos i with hi0 | hi0
        · have hi1 : ((i : Int) == 0) = true := by subst hi0; rfl
          repeat' (first | (k_unfold; (try dsimp only)) | (k_end; wrow_close) | ((with_reducible show wpAny _ _ (execs _ _) _ _ _); k_fold) | walk1 | (dsimp only; walk1) | (leave1; walk_say "STEP leave1"; try dsimp only) | fail "no step")
          all_goals first
            | (refine FMJ.of (fun y h1 h2 h3 h4 => by simp +zetaDelta only [h1, h2, h3, h4, if_false]) hvs (by k_mem) ?_; exact (pick0_hit (by omega) (by assumption)).symm.trans hpk)
            | exact ⟨⟨_, dirty3 (fun y h1 h2 h3 => by simp +zetaDelta only [h1, h2, h3, if_false])⟩, fun p hp => hp, es, rfl, hGd', (pick0_miss (by omega) (by assumption)).symm.trans hpk⟩
        · have hi1 : ((i : Int) == 0) = false := by simpa using Nat.ne_of_gt hi0
          repeat' (first | (k_unfold; (try dsimp only)) | (k_end; wrow_close) | ((with_reducible show wpAny _ _ (execs _ _) _ _ _); k_fold) | walk1 | (dsimp only; walk1) | (leave1; walk_say "STEP leave1"; try dsimp only) | fail "no step")
          all_goals first
            | (refine FMJ.of (fun y h1 h2 h3 h4 => by simp +zetaDelta only [h1, h2, h3, h4, if_false]) hvs (by k_mem) ?_; exact (pick1_hit (by omega) (by assumption)).symm.trans hpk)
            | exact ⟨⟨_, dirty3 (fun y h1 h2 h3 => by simp +zetaDelta only [h1, h2, h3, if_false])⟩, fun p hp => hp, es, rfl, hGd', (pick1_miss (by omega) (by assumption)).symm.trans hpk⟩
    · clear lF' N' hE hP hT' hR
      intro m2 news2 hJ2 h2 tk2 F6 N6
      obtain ⟨⟨u2, rfl⟩, hps, es, hes, _, hpk⟩ := hJ2
      have hes0 : es = [] := List.map_eq_nil_iff.mp hes.symm
      subst hes0
      have N7 : News g' L' h2 [(I + 1, o1), (I, o2), (l', W.listOf vs.toArray c)] := fun p hp => N6 _ (hps p hp)
      clear N6 hps hes
      rcases Nat.eq_zero_or_pos i with hi0 | hi0
      · have hi1 : ((i : Int) == 0) = true := by subst hi0; rfl
        repeat' (first | (k_unfold; (try dsimp only)) | (k_end; wrow_close) | ((with_reducible show wpAny _ _ (execs _ _) _ _ _); k_fold) | walk1 | (dsimp only; walk1) | (leave1; walk_say "STEP leave1"; try dsimp only) | fail "no step")
        all_goals (refine FMJ.of (fun y h1 h2 h3 h4 => by simp +zetaDelta only [h1, h2, h3, h4, if_false]) hvs (by k_mem) ?_; exact (pick0_nil (by omega)).symm.trans hpk)
      · have hi1 : ((i : Int) == 0) = false := by simpa using Nat.ne_of_gt hi0
        repeat' (first | (k_unfold; (try dsimp only)) | (k_end; wrow_close) | ((with_reducible show wpAny _ _ (execs _ _) _ _ _); k_fold) | walk1 | (dsimp only; walk1) | (leave1; walk_say "STEP leave1"; try dsimp only) | fail "no step")
        all_goals (refine FMJ.of (fun y h1 h2 h3 h4 => by simp +zetaDelta only [h1, h2, h3, h4, if_false]) hvs (by k_mem) ?_; exact (pick1_nil (by omega)).symm.trans hpk)
    · simp +zetaDelta only [h1, h2, h3, if_false]
      by_cases h4 : y = Str.ofString "index"
      · rw [if_pos h4, if_pos h4]
      · rw [if_neg h4, if_neg h4, if_neg h4]
  · intro m1 news1 hJ h tk F3 N3
    obtain ⟨⟨u, rfl⟩, vs, c, hmem, hvs⟩ := hJ
    have N4 : News g' L' h [(l', W.listOf vs.toArray c)] := fun p hp => by
      rw [List.mem_singleton.mp hp]
      exact N3 _ hmem
    clear N3
    k_steps
    refine join_listW (ys := signsL n 10) (by is_list) (show StrsAre vs.toArray.toList (signsL n 10) from hvs) (by decide +kernel) (signs_fit n) ?_
    intro t' k'
    k_steps
    refine retS hret ?_ (by k_asm) hG (by k_asm)
    rfl
end
end Mine
namespace Mine
section
open PySem.Calls PyProof.V
open Sem (wp)
theorem strIter_extBut {h h' : Heap} {it b : Addr} {x : Str} {t : Tok} {i : Nat} (st : h.IsStrIter it "str_ascii_iterator" x t i) (hs : Heap.ExtBut b h h') (hne : it ≠ b) : h'.IsStrIter it "str_ascii_iterator" x t i :=
  let ⟨o, ho, r⟩ := st; ⟨o, hs _ _ hne ho, r⟩
theorem strIter_at {h h' : Heap} {it : Addr} {x : Str} {t : Tok} {i : Nat} (st : h.IsStrIter it "str_ascii_iterator" x t i) (e : ∀ o, h.get? it = some o → h'.get? it = some o) : h'.IsStrIter it "str_ascii_iterator" x t i :=
  let ⟨o, ho, r⟩ := st; ⟨o, e _ ho, r⟩
section
variable {prog : Program} {w : World} {A : Around} {E : Value → Shared → Prop} {s : Shared}

theorem zipS_next_item {z TI TO i1 i2 l2 : Addr} {k1 k2 : Nat} {X : Str} {tX : Tok} {ys : Array Value} {c : Nat} {y a b : Value} {Q : Value → Shared → Prop} (D : ZipApart z TI TO i1 i2 l2 l2)
    (hz : IsZip s.heap z TI TO .none) (hTI : IsPair s.heap TI (.ref i1) (.ref i2)) (hTO : IsPair s.heap TO a b)
    (h1 : s.heap.IsStrIter i1 "str_ascii_iterator" X tX k1) (h2 : s.heap.IsListIter i2 l2 k2) (hl2 : s.heap.IsList l2 ys) (hx : X.cps[k1]? = some c) (hy : ys[k2]? = some y)
    (hQ : ∀ h' u tk, IsZip h' z TI TO (rawInt s.heap.objs.size) → IsPair h' TO (.str ⟨#[c]⟩ u) y → h'.IsStrIter i1 "str_ascii_iterator" X tX (k1 + 1) → h'.IsListIter i2 l2 (k2 + 1) → IsPair h' s.heap.objs.size (.str ⟨#[c]⟩ u) y → h'.objs.size = s.heap.objs.size + 1 →
      (∀ c o, c ≠ z → c ≠ TO → c ≠ i1 → c ≠ i2 → s.heap.get? c = some o → h'.get? c = some o) → Q (.ref s.heap.objs.size) { s with heap := h', toks := tk }) :
    wpAny (model prog w) A (Builtin.«zip.__next__» ⟨[.ref z], []⟩) (fun fin s' => ∃ v, fin = .done (.ret v) ∧ Q v s') E s := by
  show wpAny _ _ (field (.ref z) 2 >>= _) _ _ _
  refine wpAny_bind (wpAny_field hz rfl (x := .bool false) rfl ?_)
  show wpAny _ _ (field (.ref z) 3 >>= _) _ _ _
  refine wpAny_bind (wpAny_field hz rfl (x := .ref TI) rfl ?_)
  refine wpAny_bind (wpAny_seqItems hTI rfl ?_)
  show wpAny _ _ (Builtin.SmallTypes.ownedTupleIsFree (.ref z) >>= _) _ _ _
  refine wpAny_bind ?_
  unfold Builtin.SmallTypes.ownedTupleIsFree
  refine wpAny_bind (wpAny_field hz rfl (x := .none) rfl (wpAny_pure ?_))
  simp only [if_true]
  refine wpAny_bind (wpAny_rule ?_)
  refine wpAny_bind (wpAny_field hz rfl (x := .ref TO) rfl ?_)
  refine wpAny_bind (wpAny_setField_rec hz (by simp) fun h₁ hz₁ hs₁ => ?_)
  replace hz₁ : IsZip h₁ z TI TO .ellipsis := hz₁
  refine wpAny_bind ?_
  simp only [List.zipIdx_cons, List.zipIdx_nil, List.forIn_cons, List.forIn_nil]

  refine wpAny_bind (wpAny_bind (wpAny_onRaise ?_))
  show wpAny _ _ (Builtin.SmallTypes.nextOf (.ref i1) >>= _) _ _ _
  refine wpAny_bind (wpAny_nextOf_ascii_item (strIter_extBut h1 hs₁.extBut D.i1z) hx fun h₂ h1₂ hs₂ => wpAny_pure ?_)
  have hTO₂ : IsPair h₂ TO a b := hs₂.extBut _ _ D.TOi1 (hs₁.extBut _ _ D.TOz hTO)
  refine wpAny_bind (wpAny_seqItems hTO₂ rfl ?_)
  refine wpAny_bind (wpAny_updateSeq_pair hTO₂ fun h₃ hTO₃ hs₃ => ?_)
  replace hTO₃ : IsPair h₃ TO (.str ⟨#[c]⟩ s.toks) b := hTO₃
  refine wpAny_bind (wpAny_letGo (wpAny_pure ?_))

  refine wpAny_bind (wpAny_bind (wpAny_onRaise ?_))
  show wpAny _ _ (Builtin.SmallTypes.nextOf (.ref i2) >>= _) _ _ _
  refine wpAny_bind (wpAny_nextOf_list_item (((h2.extBut hs₁.extBut D.i2z).extBut hs₂.extBut D.i12.symm).extBut hs₃.extBut D.TOi2.symm)
    (((hl2.extBut hs₁.extBut D.l2z).extBut hs₂.extBut D.l2i1).extBut hs₃.extBut D.l2TO) hy fun h₄ h2₄ hs₄ => wpAny_pure ?_)
  have hTO₄ : IsPair h₄ TO (.str ⟨#[c]⟩ s.toks) b := hs₄.extBut _ _ D.TOi2 hTO₃
  refine wpAny_bind (wpAny_seqItems hTO₄ rfl ?_)
  refine wpAny_bind (wpAny_updateSeq_pair hTO₄ fun h₅ hTO₅ hs₅ => ?_)
  replace hTO₅ : IsPair h₅ TO (.str ⟨#[c]⟩ s.toks) y := hTO₅
  refine wpAny_bind (wpAny_letGo (wpAny_pure (wpAny_pure ?_)))

  refine wpAny_bind (wpAny_seqItems hTO₅ rfl ?_)
  refine wpAny_bind (wpAny_newTuple ?_)
  have hsz : h₅.objs.size = s.heap.objs.size := by rw [hs₅.1, hs₄.1, hs₃.1, hs₂.1, hs₁.1]
  have hz₅ : IsZip h₅ z TI TO .ellipsis := hs₅.extBut _ _ D.TOz.symm (hs₄.extBut _ _ D.i2z.symm (hs₃.extBut _ _ D.TOz.symm (hs₂.extBut _ _ D.i1z.symm hz₁)))
  have hk₅ : ∀ c o, c ≠ z → c ≠ TO → c ≠ i1 → c ≠ i2 → s.heap.get? c = some o → h₅.get? c = some o := fun c o c1 c2 c3 c4 e =>
    hs₅.extBut _ _ c2 (hs₄.extBut _ _ c4 (hs₃.extBut _ _ c2 (hs₂.extBut _ _ c3 (hs₁.extBut _ _ c1 e))))
  have h1₅ : h₅.IsStrIter i1 "str_ascii_iterator" X tX (k1 + 1) := strIter_extBut (strIter_extBut (strIter_extBut h1₂ hs₃.extBut D.TOi1.symm) hs₄.extBut D.i12) hs₅.extBut D.TOi1.symm
  have h2₅ : h₅.IsListIter i2 l2 (k2 + 1) := h2₄.extBut hs₅.extBut D.TOi2.symm
  have hzlt : z < h₅.objs.size := Heap.lt_size hz₅
  have hTOlt : TO < h₅.objs.size := Heap.lt_size hTO₅
  show wpAny _ _ (Builtin.SmallTypes.ownedTupleHandOut (.ref z) (.ref h₅.objs.size) >>= _) _ _ _
  refine wpAny_bind ?_
  unfold Builtin.SmallTypes.ownedTupleHandOut
  have hz₆ : IsZip (h₅.push { cls := .type "tuple", data := .seq #[.str ⟨#[c]⟩ s.toks, y] }) z TI TO .ellipsis := Heap.get?_push_of_some _ hz₅
  refine wpAny_bind (wpAny_setField_rec hz₆ (by simp) fun h₇ hz₇ hs₇ => ?_)
  replace hz₇ : IsZip h₇ z TI TO (rawInt h₅.objs.size) := hz₇
  refine wpAny_setField_rec hz₇ (by simp) fun h₈ hz₈ hs₈ => ?_
  replace hz₈ : IsZip h₈ z TI TO (rawInt h₅.objs.size) := hz₈
  have up : ∀ c o, c ≠ z → h₅.get? c = some o → h₈.get? c = some o := fun c o c1 e => hs₈.extBut _ _ c1 (hs₇.extBut _ _ c1 (Heap.get?_push_of_some _ e))
  have hT₈ : IsPair h₈ h₅.objs.size (.str ⟨#[c]⟩ s.toks) y := hs₈.extBut _ _ (Nat.ne_of_gt hzlt) (hs₇.extBut _ _ (Nat.ne_of_gt hzlt) (Heap.get?_push_size _ rfl))
  have hz8 : h₈.objs.size = h₅.objs.size + 1 := by rw [hs₈.1, hs₇.1, Heap.size_push]
  rw [hsz] at hz₈ hT₈ hz8
  refine wpAny_pure ⟨_, rfl, ?_⟩
  show Q (.ref h₅.objs.size) _
  rw [hsz]
  exact hQ h₈ s.toks _ hz₈ (up _ _ D.TOz hTO₅) (strIter_at h1₅ fun o e => up _ o D.i1z e) (h2₅.at fun o e => up _ o D.i2z e) hT₈ hz8 fun c o c1 c2 c3 c4 e => up c o c1 (hk₅ c o c1 c2 c3 c4 e)

theorem zipS_next_end {z TI TO i1 i2 l2 : Addr} {k1 : Nat} {X : Str} {tX : Tok} {a b : Value} {Q : Fin → Shared → Prop} (hh : A.handled = none) (D : ZipApart z TI TO i1 i2 l2 l2)
    (hz : IsZip s.heap z TI TO .none) (hTI : IsPair s.heap TI (.ref i1) (.ref i2)) (hTO : IsPair s.heap TO a b)
    (h1 : s.heap.IsStrIter i1 "str_ascii_iterator" X tX k1) (hend : X.cps[k1]? = none)
    (hE : ∀ h' e, (∀ c o, c ≠ z → c ≠ TO → c ≠ i1 → c ≠ i2 → s.heap.get? c = some o → h'.get? c = some o) → (∃ o, h'.get? e = some o ∧ o.cls = .type "StopIteration") → E (.ref e) { s with heap := h' }) :
    wpAny (model prog w) A (Builtin.«zip.__next__» ⟨[.ref z], []⟩) Q E s := by
  show wpAny _ _ (field (.ref z) 2 >>= _) _ _ _
  refine wpAny_bind (wpAny_field hz rfl (x := .bool false) rfl ?_)
  show wpAny _ _ (field (.ref z) 3 >>= _) _ _ _
  refine wpAny_bind (wpAny_field hz rfl (x := .ref TI) rfl ?_)
  refine wpAny_bind (wpAny_seqItems hTI rfl ?_)
  show wpAny _ _ (Builtin.SmallTypes.ownedTupleIsFree (.ref z) >>= _) _ _ _
  refine wpAny_bind ?_
  unfold Builtin.SmallTypes.ownedTupleIsFree
  refine wpAny_bind (wpAny_field hz rfl (x := .none) rfl (wpAny_pure ?_))
  simp only [if_true]
  refine wpAny_bind (wpAny_rule ?_)
  refine wpAny_bind (wpAny_field hz rfl (x := .ref TO) rfl ?_)
  refine wpAny_bind (wpAny_setField_rec hz (by simp) fun h₁ hz₁ hs₁ => ?_)
  replace hz₁ : IsZip h₁ z TI TO .ellipsis := hz₁
  refine wpAny_bind ?_
  simp only [List.zipIdx_cons, List.zipIdx_nil, List.forIn_cons, List.forIn_nil]
  refine wpAny_bind (wpAny_bind (wpAny_onRaise ?_))
  show wpAny _ _ (Builtin.SmallTypes.nextOf (.ref i1) >>= _) _ _ _
  refine wpAny_bind (wpAny_nextOf_ascii_end hh (strIter_extBut h1 hs₁.extBut D.i1z) hend fun h₂ e hs₂ he => ?_)
  obtain ⟨oe, hoe, hce⟩ := he
  have hz₂ : IsZip h₂ z TI TO .ellipsis := hs₂ _ _ D.i1z.symm hz₁
  have hez : e ≠ z := fun x => by subst x; rw [hz₂] at hoe; cases hoe; simp at hce
  refine wpAny_setField_rec hz₂ (by simp) fun h₃ _ hs₃ => hE h₃ e (fun c o c1 _ c3 _ x => hs₃.extBut _ _ c1 (hs₂ _ _ c3 (hs₁.extBut _ _ c1 x))) ⟨oe, hs₃.extBut _ _ hez hoe, hce⟩

theorem zipS_pyNext_item {z TI TO i1 i2 l2 : Addr} {k1 k2 : Nat} {X : Str} {tX : Tok} {ys : Array Value} {c : Nat} {y a b : Value} {Q : Option Value → Shared → Prop} (D : ZipApart z TI TO i1 i2 l2 l2)
    (hz : IsZip s.heap z TI TO .none) (hTI : IsPair s.heap TI (.ref i1) (.ref i2)) (hTO : IsPair s.heap TO a b)
    (h1 : s.heap.IsStrIter i1 "str_ascii_iterator" X tX k1) (h2 : s.heap.IsListIter i2 l2 k2) (hl2 : s.heap.IsList l2 ys) (hx : X.cps[k1]? = some c) (hy : ys[k2]? = some y)
    (hQ : ∀ h' u tk, IsZip h' z TI TO (rawInt s.heap.objs.size) → IsPair h' TO (.str ⟨#[c]⟩ u) y → h'.IsStrIter i1 "str_ascii_iterator" X tX (k1 + 1) → h'.IsListIter i2 l2 (k2 + 1) → IsPair h' s.heap.objs.size (.str ⟨#[c]⟩ u) y → h'.objs.size = s.heap.objs.size + 1 →
      (∀ c o, c ≠ z → c ≠ TO → c ≠ i1 → c ≠ i2 → s.heap.get? c = some o → h'.get? c = some o) → Q (some (.ref s.heap.objs.size)) { s with heap := h', toks := tk }) :
    wpAny (model prog w) A (pyNext (.ref z)) Q E s := by
  have hT : s.TypeIs (.ref z) "zip" := ⟨_, hz, rfl⟩
  unfold pyNext
  exact wpAny_bind (wpAny_attempt (wpAny_callSpecial?_slot (name := Str.ofString "__next__") hT F.slot_zip_next
    (wpAny_call_entry F.slot_zip_next hT F.entry_zip_next
      (zipS_next_item D hz hTI hTO h1 h2 hl2 hx hy fun h' u tk a1 a2 a3 a4 a5 a6 a7 => wpAny_pure (hQ h' u tk a1 a2 a3 a4 a5 a6 a7)) (F.args_zip_next_1 _))))

theorem zipS_pyNext_end {z TI TO i1 i2 l2 : Addr} {k1 : Nat} {X : Str} {tX : Tok} {a b : Value} {Q : Option Value → Shared → Prop} (hh : A.handled = none) (D : ZipApart z TI TO i1 i2 l2 l2)
    (hz : IsZip s.heap z TI TO .none) (hTI : IsPair s.heap TI (.ref i1) (.ref i2)) (hTO : IsPair s.heap TO a b)
    (h1 : s.heap.IsStrIter i1 "str_ascii_iterator" X tX k1) (hend : X.cps[k1]? = none)
    (hQ : ∀ h', (∀ c o, c ≠ z → c ≠ TO → c ≠ i1 → c ≠ i2 → s.heap.get? c = some o → h'.get? c = some o) → Q none { s with heap := h' }) : wpAny (model prog w) A (pyNext (.ref z)) Q E s := by
  have hT : s.TypeIs (.ref z) "zip" := ⟨_, hz, rfl⟩
  unfold pyNext
  refine wpAny_bind (wpAny_attempt (wpAny_callSpecial?_slot (name := Str.ofString "__next__") hT F.slot_zip_next
    (wpAny_call_entry F.slot_zip_next hT F.entry_zip_next (zipS_next_end hh D hz hTI hTO h1 hend fun h' e hk he => ?_) (F.args_zip_next_1 _))))
  obtain ⟨o, ho, hc⟩ := he
  refine wpAny_bind (wpAny_isInstance (T := "StopIteration") (b := true) ⟨o, ho, hc⟩ isSubtype_stop ?_)
  exact wpAny_pure (hQ _ hk)

abbrev zipG1 (h : Heap) (X : Str) (tX : Tok) : Heap := h.push { cls := .type "str_ascii_iterator", data := .fields #[.str X tX, .int 0 0] }
abbrev zipG2 (h : Heap) (X : Str) (tX : Tok) (l2 : Addr) : Heap := (zipG1 h X tX).push { cls := .type "list_iterator", data := .fields #[.ref l2, .int 0 0] }
abbrev zipG3 (h : Heap) (X : Str) (tX : Tok) (l2 : Addr) : Heap := (zipG2 h X tX l2).push { cls := .type "tuple", data := .seq #[.ref h.objs.size, .ref (zipG1 h X tX).objs.size] }
abbrev zipG4 (h : Heap) (X : Str) (tX : Tok) (l2 : Addr) : Heap := (zipG3 h X tX l2).push { cls := .type "tuple", data := .seq #[.none, .none] }
abbrev zipG5 (h : Heap) (X : Str) (tX : Tok) (l2 : Addr) : Heap := (zipG4 h X tX l2).push { cls := .type "zip", data := .fields #[.none, .bool false, .bool false, .ref (zipG2 h X tX l2).objs.size, .ref (zipG3 h X tX l2).objs.size] }

theorem meets_zipS_new (X : Str) (tX : Tok) (l2 : Addr) (ys : Array Value) (ha : X.cps.all (· < 128) = true) :
    Meets (Builtin.«zip.__new__» ⟨[.type "zip", .str X tX, .ref l2], []⟩) (fun _ R s => s.heap.IsList l2 ys ∧
      R (.ok (.ret (.ref (zipG4 s.heap X tX l2).objs.size))) { s with heap := zipG5 s.heap X tX l2 }) :=
  .of_wp fun prog w A R s h => by
    obtain ⟨hp, g, d, tk, os⟩ := s; obtain ⟨hl2, h⟩ := h
    have hsub := sub_zip
    have hL2 : Heap.IsList (Shared.heap ⟨hp.push { cls := .type "str_ascii_iterator", data := .fields #[.str X tX, .int 0 0] }, g, d, tk, os⟩) l2 ys := Heap.IsList.push hl2 _
    wp_walk using wpAny_pyIter_ascii ha, wpAny_pyIter_list hL2
    exact ⟨_, rfl, h⟩

theorem call_zipS {X : Str} {tX : Tok} {l2 : Addr} {ys : Array Value} {Q : Value → Shared → Prop} (ha : X.cps.all (· < 128) = true) (hl2 : s.heap.IsList l2 ys)
    (h : ∀ h', IsZip h' (s.heap.objs.size + 4) (s.heap.objs.size + 2) (s.heap.objs.size + 3) .none → IsPair h' (s.heap.objs.size + 2) (.ref s.heap.objs.size) (.ref (s.heap.objs.size + 1)) →
      IsPair h' (s.heap.objs.size + 3) .none .none → h'.IsStrIter s.heap.objs.size "str_ascii_iterator" X tX 0 → h'.IsListIter (s.heap.objs.size + 1) l2 0 → h'.objs.size = s.heap.objs.size + 5 →
      (∀ c o, s.heap.get? c = some o → h'.get? c = some o) → Q (.ref (s.heap.objs.size + 4)) { s with heap := h' }) :
    wpAny (model prog w) A (call (.type "zip") [.str X tX, .ref l2]) Q E s := by
  refine callType_new F.called_zip (by decide) (F.typeCall_zip_2 _ _) (F.newCall_zip_2 _ _) (fun obj => F.args_object_init_3 obj _ _) F.entry_zip_new
    (meets_zipS_new X tX l2 ys ha) ⟨hl2, ?_⟩
  have z1 : (zipG1 s.heap X tX).objs.size = s.heap.objs.size + 1 := Heap.size_push ..
  have z2 : (zipG2 s.heap X tX l2).objs.size = s.heap.objs.size + 2 := by rw [Heap.size_push, z1]
  have z3 : (zipG3 s.heap X tX l2).objs.size = s.heap.objs.size + 3 := by rw [Heap.size_push, z2]
  have z4 : (zipG4 s.heap X tX l2).objs.size = s.heap.objs.size + 4 := by rw [Heap.size_push, z3]
  have z5 : (zipG5 s.heap X tX l2).objs.size = s.heap.objs.size + 5 := by rw [Heap.size_push, z4]
  have g5 : (zipG5 s.heap X tX l2).get? (zipG4 s.heap X tX l2).objs.size = some _ := Heap.get?_push_size _ rfl
  have g4 : (zipG5 s.heap X tX l2).get? (zipG3 s.heap X tX l2).objs.size = some _ := Heap.get?_push_of_some _ (Heap.get?_push_size _ rfl)
  have g3 : (zipG5 s.heap X tX l2).get? (zipG2 s.heap X tX l2).objs.size = some _ := Heap.get?_push_of_some _ (Heap.get?_push_of_some _ (Heap.get?_push_size _ rfl))
  have g2 : (zipG5 s.heap X tX l2).get? (zipG1 s.heap X tX).objs.size = some _ := Heap.get?_push_of_some _ (Heap.get?_push_of_some _ (Heap.get?_push_of_some _ (Heap.get?_push_size _ rfl)))
  have g1 : (zipG5 s.heap X tX l2).get? s.heap.objs.size = some _ := Heap.get?_push_of_some _ (Heap.get?_push_of_some _ (Heap.get?_push_of_some _ (Heap.get?_push_of_some _ (Heap.get?_push_size _ rfl))))
  show _ ∧ _
  rw [z2, z3, z4] at g5
  rw [z1, z2] at g3
  rw [z3] at g4
  rw [z1] at g2
  rw [z4]
  exact ⟨⟨_, g5, rfl⟩, h _ g5 g3 g4 ⟨_, g1, rfl, rfl⟩ ⟨_, g2, rfl, rfl⟩ z5 fun c o x =>
    Heap.get?_push_of_some _ (Heap.get?_push_of_some _ (Heap.get?_push_of_some _ (Heap.get?_push_of_some _ (Heap.get?_push_of_some _ x))))⟩

theorem walksZipS (hh : A.handled = none) (z TI TO i1 i2 l2 : Addr) (D : ZipApart z TI TO i1 i2 l2 l2) (X : Str) (tX : Tok) (ys : Array Value) (hsize : X.cps.size = ys.size) :
    WalksT prog w A z [z, TI, TO, i1, i2, l2] [z, TO, i1, i2] ys.size
      (fun i vals => ∃ c u y, X.cps[i]? = some c ∧ ys[i]? = some y ∧ vals = #[.str ⟨#[c]⟩ u, y])
      (fun i h => IsZip h z TI TO .none ∧ IsPair h TI (.ref i1) (.ref i2) ∧ (∃ a b, IsPair h TO a b) ∧ h.IsStrIter i1 "str_ascii_iterator" X tX i ∧ h.IsListIter i2 l2 i ∧ h.IsList l2 ys)
      (fun i T h => IsZip h z TI TO (rawInt T) ∧ IsPair h TI (.ref i1) (.ref i2) ∧ (∃ a b, IsPair h TO a b) ∧ h.IsStrIter i1 "str_ascii_iterator" X tX (i + 1) ∧ h.IsListIter i2 l2 (i + 1) ∧ h.IsList l2 ys ∧
        T ≠ z ∧ T ≠ TO ∧ T ≠ i1 ∧ T ≠ i2) where
  sub := fun c hc => by simp at hc ⊢; rcases hc with rfl | rfl | rfl | rfl <;> simp
  frame := fun i h h' hst hk => by
    obtain ⟨hz, hTI, ⟨a, b, hTO⟩, h1, h2, hl2⟩ := hst
    exact ⟨hk z (by simp) _ hz, hk TI (by simp) _ hTI, ⟨a, b, hk TO (by simp) _ hTO⟩, strIter_at h1 fun o e => hk i1 (by simp) o e, h2.at fun o e => hk i2 (by simp) o e,
      hl2.at fun o e => hk l2 (by simp) o e⟩
  item := fun i s Q E hi hst hQ => by
    obtain ⟨hz, hTI, ⟨a, b, hTO⟩, h1, h2, hl2⟩ := hst
    have hix : i < X.cps.size := by rw [hsize]; exact hi
    refine zipS_pyNext_item D hz hTI hTO h1 h2 hl2 (Array.getElem?_eq_getElem hix) (Array.getElem?_eq_getElem hi) fun h' u tk a1 a2 a3 a4 a5 a6 hk => ?_
    have lt : ∀ {c o}, s.heap.get? c = some o → s.heap.objs.size ≠ c := fun e => Nat.ne_of_gt (Heap.lt_size e)
    exact hQ s.heap.objs.size #[.str ⟨#[X.cps[i]]⟩ u, ys[i]] h' tk ⟨_, _, _, Array.getElem?_eq_getElem hix, Array.getElem?_eq_getElem hi, rfl⟩ (Nat.le_refl _) ⟨_, a5, rfl, _, rfl⟩
      ⟨a1, hk _ _ D.TIz D.TITO D.TIi1 D.TIi2 hTI, ⟨_, _, a2⟩, a3, a4, hl2.at fun o e => hk _ o D.l2z D.l2TO D.l2i1 D.l2i2 e,
        lt hz, lt hTO, (by obtain ⟨_, e, _⟩ := h1; exact lt e), (by obtain ⟨_, e, _⟩ := h2; exact lt e)⟩
      fun c o hc e => hk c o (fun x => hc (by simp [x])) (fun x => hc (by simp [x])) (fun x => hc (by simp [x])) (fun x => hc (by simp [x])) e
  go := fun elts k pos i T s Q E hm hQ => by
    obtain ⟨hz, hTI, ⟨a, b, hTO⟩, h1, h2, hl2, _⟩ := hm
    refine wpAny_letOwnedTupleGo_zip hz fun h' hz' hs' => hQ h' ⟨hz', hs'.extBut _ _ D.TIz hTI, ⟨a, b, hs'.extBut _ _ D.TOz hTO⟩, strIter_extBut h1 hs'.extBut D.i1z, h2.extBut hs'.extBut D.i2z,
      hl2.extBut hs'.extBut D.l2z⟩ fun c o hc e => hs'.extBut _ _ (fun x => hc (by simp [x])) e
  apart := fun i T h hm hT => by
    obtain ⟨_, _, _, _, _, _, t1, t2, t3, t4⟩ := hm
    simp at hT
    rcases hT with rfl | rfl | rfl | rfl
    · exact t1 rfl
    · exact t2 rfl
    · exact t3 rfl
    · exact t4 rfl
  done := fun s Q E hst hQ => by
    obtain ⟨hz, hTI, ⟨a, b, hTO⟩, h1, h2, hl2⟩ := hst
    exact zipS_pyNext_end hh D hz hTI hTO h1 (Array.getElem?_eq_none (by rw [hsize]; exact Nat.le_refl _)) fun h' hk => hQ h' s.toks fun c o hc e =>
      hk c o (fun x => hc (by simp [x])) (fun x => hc (by simp [x])) (fun x => hc (by simp [x])) (fun x => hc (by simp [x])) e
  self := fun i s Q E hst hQ => wpAny_pyIter_zip hst.1 hQ
end

section
variable {prog : Program} {w : World} {A : Around} {E : Value → Shared → Prop} {s : Shared} {env : Env} {h₀ : Heap} {body : List Stmt} {Q : Flow → Shared → Prop}
def zipSItems : List Nat → List Value → List Itm
  | [], _ => []
  | _ :: _, [] => []
  | c :: r, y :: q => .pair (fun u => .str ⟨#[c]⟩ u) y :: zipSItems r q
theorem zipSItems_length : ∀ (xs : List Nat) (ys : List Value), xs.length = ys.length → (zipSItems xs ys).length = ys.length
  | [], [], _ => rfl
  | _ :: r, _ :: q, h => by
    simp only [zipSItems, List.length_cons, zipSItems_length r q (by simpa using h)]
theorem zipSItems_get : ∀ (xs : List Nat) (ys : List Value) (i : Nat) {x : Nat} {y : Value}, xs[i]? = some x → ys[i]? = some y → (zipSItems xs ys)[i]? = some (.pair (fun u => .str ⟨#[x]⟩ u) y)
  | [], _, _, _, _, h, _ => by simp at h
  | _ :: _, [], _, _, _, _, h => by simp at h
  | x' :: r, y' :: q, 0, x, y, h, h' => by
    have e : x' = x := by simpa using h
    have e' : y' = y := by simpa using h'
    subst e e'
    rfl
  | x' :: r, y' :: q, i + 1, x, y, h, h' => by
    have g := zipSItems_get r q i (x := x) (y := y) (by simpa using h) (by simpa using h')
    simpa [zipSItems] using g

/-- for a, b in zip(a text, a list made by the call) -/
theorem zipSK {elts : List PySem.Expr} {k : Nat} {pos : Pos} {l2 : Addr} {lo2 : Obj} {X : Str} {tX : Tok} {ys : List Value} {n2 : Nat} {m₀ : Str → Option Value} {news : List (Addr × Obj)}
    (hh : A.handled = none) (F : Fr h₀ env.locals s.heap m₀) (N : News h₀ env.locals s.heap news) (ha : X.cps.all (· < 128) = true) (hsize : X.cps.size = ys.toArray.size) (hm2 : (l2, lo2) ∈ news) (hc2 : lo2.cls = .type "list") (hd2 : lo2.data = .seq ys.toArray n2)
    (rest₀ : ∀ I : Addr, (∀ p ∈ news, p.1 < I) → ItemsRest prog w A E h₀ env (.Tuple elts k pos) body Q s [(I + 4, "zip"), (I + 2, "tuple"), (I + 3, "tuple"), (I, "str_ascii_iterator"), (I + 1, "list_iterator")] [(l2, lo2)] (zipSItems X.cps.toList ys) m₀ news) :
    wpAny (model prog w) A (call (.type "zip") [.str X tX, .ref l2]) (fun xv s₁ => wpAny (model prog w) A (pyIter xv) (fun it s₂ => TurnsAt prog w A h₀ env (.Tuple elts k pos) body Q E it s₂) E s₁) E s := by
  have hax2 := N _ hm2
  have hl2 : s.heap.IsList l2 ys.toArray := ⟨lo2, hax2.1, hc2, n2, hd2⟩
  have hlt2 : l2 < s.heap.objs.size := Heap.lt_size hax2.1
  have hLs : env.locals < s.heap.objs.size := F.ns.lt
  have D : ZipApart (s.heap.objs.size + 4) (s.heap.objs.size + 2) (s.heap.objs.size + 3) s.heap.objs.size (s.heap.objs.size + 1) l2 l2 := ktu_apart _ _ _ hlt2 hlt2
  refine call_zipS ha hl2 fun h' hz hTI hTO hi1 hi2 hsz hk => ?_
  refine wpAny_pyIter_zip hz ?_
  refine ktu_core (tk0 := s.toks) (keep := [(l2, lo2)]) (KTurns.ofWalksU (walksZipS hh _ _ _ _ _ _ D X tX ys.toArray hsize).toU) (by rw [zipSItems_length _ _ (by simpa using hsize)]; simp) ?_ ?_ ?_ ?_ ?_ ?_ ?_ ?_ (F.keeps hk) (N.grown hk) (And.intro hm2 trivial) (rest₀ _ fun p hp => Heap.lt_size (N p hp).1)
  · rintro i v h ⟨T, vals, rfl, ⟨c, u, y, hx, hy, rfl⟩, hT⟩
    exact ⟨_, zipSItems_get X.cps.toList ys i (x := c) (y := y) (by simpa using hx) (by simpa using hy), T, u, rfl, hT⟩
  · rintro i h ⟨hz, hTI, ⟨a, b, hTO⟩, ⟨o1, ho1, hc1, _⟩, ⟨o2, ho2, hc2, _⟩, _⟩
    have e1 : ∃ o : Obj, h.get? (s.heap.objs.size + 4) = some o ∧ o.cls = .type "zip" := ⟨_, hz, rfl⟩
    have e2 : ∃ o : Obj, h.get? (s.heap.objs.size + 2) = some o ∧ o.cls = .type "tuple" := ⟨_, hTI, rfl⟩
    have e3 : ∃ o : Obj, h.get? (s.heap.objs.size + 3) = some o ∧ o.cls = .type "tuple" := ⟨_, hTO, rfl⟩
    obtain ⟨q1, g1, k1⟩ := e1
    obtain ⟨q2, g2, k2⟩ := e2
    obtain ⟨q3, g3, k3⟩ := e3
    refine ⟨[(s.heap.objs.size + 4, q1), (s.heap.objs.size + 2, q2), (s.heap.objs.size + 3, q3), (s.heap.objs.size, o1), (s.heap.objs.size + 1, o2)], ⟨⟨rfl, k1⟩, ⟨rfl, k2⟩, ⟨rfl, k3⟩, ⟨rfl, hc1⟩, ⟨rfl, hc2⟩, trivial⟩, fun p hp => ?_⟩
    have hp' : p = (s.heap.objs.size + 4, q1) ∨ p = (s.heap.objs.size + 2, q2) ∨ p = (s.heap.objs.size + 3, q3) ∨ p = (s.heap.objs.size, o1) ∨ p = (s.heap.objs.size + 1, o2) := by simpa using hp
    rcases hp' with rfl | rfl | rfl | rfl | rfl
    · exact g1
    · exact g2
    · exact g3
    · exact ho1
    · exact ho2
  · intro b hb
    have hb' : b = s.heap.objs.size + 4 ∨ b = s.heap.objs.size + 2 ∨ b = s.heap.objs.size + 3 ∨ b = s.heap.objs.size ∨ b = s.heap.objs.size + 1 := by simpa using hb
    rcases hb' with rfl | rfl | rfl | rfl | rfl
    · exact ⟨by simp, ktu_new F (Nat.le_add_right _ _)⟩
    · exact ⟨by simp, ktu_new F (Nat.le_add_right _ _)⟩
    · exact ⟨by simp, ktu_new F (Nat.le_add_right _ _)⟩
    · exact ⟨by simp, ktu_new F (Nat.le_refl _)⟩
    · exact ⟨by simp, ktu_new F (Nat.le_add_right _ _)⟩
  · intro b hb
    have hb' : b = s.heap.objs.size + 4 ∨ b = s.heap.objs.size + 3 ∨ b = s.heap.objs.size ∨ b = s.heap.objs.size + 1 := by simpa using hb
    rcases hb' with rfl | rfl | rfl | rfl <;> simp
  · intro b hb
    have hb' : b = s.heap.objs.size + 4 ∨ b = s.heap.objs.size + 2 ∨ b = s.heap.objs.size + 3 ∨ b = s.heap.objs.size ∨ b = s.heap.objs.size + 1 ∨ b = l2 := by simpa using hb
    rcases hb' with rfl | rfl | rfl | rfl | rfl | rfl
    · exact .inl (by simp)
    · exact .inl (by simp)
    · exact .inl (by simp)
    · exact .inl (by simp)
    · exact .inl (by simp)
    · exact .inr ⟨lo2, by simp⟩
  · intro hI'
    have hb' : env.locals = s.heap.objs.size + 4 ∨ env.locals = s.heap.objs.size + 2 ∨ env.locals = s.heap.objs.size + 3 ∨ env.locals = s.heap.objs.size ∨ env.locals = s.heap.objs.size + 1 ∨ env.locals = l2 := by simpa using hI'
    rcases hb' with e | e | e | e | e | e
    · exact ktu_ne 4 hLs e
    · exact ktu_ne 2 hLs e
    · exact ktu_ne 3 hLs e
    · exact Nat.ne_of_lt hLs e
    · exact ktu_ne 1 hLs e
    · exact hax2.2.1 e.symm
  · intro p hp hI'
    have hb' : p.1 = s.heap.objs.size + 4 ∨ p.1 = s.heap.objs.size + 3 ∨ p.1 = s.heap.objs.size ∨ p.1 = s.heap.objs.size + 1 := by simpa using hI'
    have hlp := Heap.lt_size (N p hp).1
    rcases hb' with e | e | e | e
    · exact ktu_ne 4 hlp e
    · exact ktu_ne 3 hlp e
    · exact Nat.ne_of_lt hlp e
    · exact ktu_ne 1 hlp e
  · exact ⟨hz, hTI, ⟨.none, .none, hTO⟩, hi1, hi2, hl2.at fun o e => hk l2 o e⟩
end
end
end Mine
namespace Mine
section
def colL : List (List Nat) := [[45, 63, 98, 99, 100, 108, 112, 115], [45, 114], [45, 119], [45, 83, 115, 120], [45, 114], [45, 119], [45, 83, 115, 120], [45, 114], [45, 119], [45, 84, 116, 120]]
def codeAt (i k : Nat) : Nat := (colL.getD i []).getD k 0
def radix (i : Nat) : Nat := (colL.getD i []).length
def rowD (d : Nat → Nat) : Str := ⟨#[codeAt 0 (d 0), codeAt 1 (d 1), codeAt 2 (d 2), codeAt 3 (d 3), codeAt 4 (d 4), codeAt 5 (d 5), codeAt 6 (d 6), codeAt 7 (d 7), codeAt 8 (d 8), codeAt 9 (d 9)]⟩
def plD (d : Nat → Nat) : Nat → Nat
  | 0 => 0
  | i + 1 => plD d i * radix i + d i
def colS (i : Nat) : Str := ⟨(colL.getD i []).toArray⟩
theorem col_all : ∀ i, i < 10 → ∀ k, k < radix i → Txt.contains (colS i) ⟨#[codeAt i k]⟩ = true ∧ Txt.find (colS i) ⟨#[codeAt i k]⟩ = (k : Int) := by decide +kernel
theorem col_contains (i k : Nat) (hi : i < 10) (hk : k < radix i) : Txt.contains (colS i) ⟨#[codeAt i k]⟩ = true := (col_all i hi k hk).1
theorem col_find (i k : Nat) (hi : i < 10) (hk : k < radix i) : Txt.find (colS i) ⟨#[codeAt i k]⟩ = (k : Int) := (col_all i hi k hk).2
theorem radix_le : ∀ i, i < 10 → 1 ≤ radix i ∧ radix i ≤ 8 := by decide
def radP : Nat → Nat
  | 0 => 1
  | j + 1 => radP j * radix j
theorem plD_lt {d : Nat → Nat} (hd : ∀ i, i < 10 → d i < radix i) : plD d 10 < 32768 := by
  have h : ∀ j, j ≤ 10 → plD d j < radP j := by
    intro j
    induction j with
    | zero => intro _; exact Nat.one_pos
    | succ j ih =>
      intro hj
      have h1 := Nat.mul_le_mul_right (radix j) (Nat.succ_le_of_lt (ih (by omega)))
      have h2 := hd j (by omega)
      rw [Nat.succ_mul] at h1
      show plD d j * radix j + d j < radP j * radix j
      omega
  exact h 10 (Nat.le_refl _)
theorem plD_mono {d : Nat → Nat} : ∀ {i j : Nat}, j ≤ 10 → i ≤ j → plD d i ≤ plD d j
  | i, 0, _, h => by rw [Nat.le_zero.mp h]; exact Nat.le_refl _
  | i, j + 1, hj, h => by
    rcases Nat.lt_or_ge i (j + 1) with hlt | hge
    · have h1 := plD_mono (d := d) (i := i) (j := j) (by omega) (by omega)
      have h2 := (radix_le j (by omega)).1
      show plD d i ≤ plD d j * radix j + d j
      have h3 : plD d j * 1 ≤ plD d j * radix j := Nat.mul_le_mul_left _ h2
      omega
    · have e : i = j + 1 := by omega
      rw [e]; exact Nat.le_refl _
section
variable {prog : Program} {w : World} {A : Around} {E : Value → Shared → Prop} {s : Shared} {x y : Str} {t u : Tok} {Q : Value → Shared → Prop}
theorem len_lit {n : Nat} (hn : x.length = n) (hfit : n ≤ 1000) (h : Q (.int n (s.toks + 1)) { s with toks := s.toks + 1 + 1 }) : wpAny (model prog w) A (call (.builtin "len") [.str x t]) Q E s := by
  subst hn
  refine P.len_str (by omega) h
theorem notIn_col (hc : Txt.contains x y = true) (h : Q (.bool false) s) : wpAny (model prog w) A (compareOp .NotIn (.str y u) (.str x t)) Q E s := by
  refine P.notIn_str ?_
  have e : (!(Builtin.Str.occurrences x y 0 x.length 1).isEmpty) = true := hc
  rw [e]
  exact h
theorem find_col {k : Int} (hc : Txt.find x y = k) (h : Q (.int k s.toks) { s with toks := s.toks + 1 }) : wpAny (model prog w) A (call (.builtin "str.find") [.str x t, .str y u]) Q E s := by
  subst hc
  exact SC.find h
end
end
end Mine
namespace Mine
section
theorem dirty2 {m f : Str → Option Value} {a b : Str} (hm : ∀ y, y ≠ a → y ≠ b → m y = f y) : m = fun y => if y = a then m y else if y = b then m y else f y := by
  funext y
  by_cases h1 : y = a
  · rw [if_pos h1]
  by_cases h2 : y = b
  · rw [if_neg h1, if_pos h2]
  rw [if_neg h1, if_neg h2]
  exact hm y h1 h2
theorem lookup1' (a y : Str) (v : Value) : List.lookup y [(a, v)].reverse = if y = a then some v else none := by
  show (match y == a with | true => some v | false => List.lookup y []) = _
  by_cases h : y = a
  · rw [if_pos h]; subst h; simp
  · rw [if_neg h]
    have : (y == a) = false := by simpa using h
    rw [this]; rfl
def SGJ (d : Nat → Nat) (t : Tok) (lp : Addr × Obj) (i : Nat) (m : Str → Option Value) (news : List (Addr × Obj)) : Prop :=
  (∃ (u : Str → Option Value) (tp : Tok) (p : Int), p = (plD d i : Nat) ∧ m = fun y => if y = Str.ofString "sign" then u y else if y = Str.ofString "column" then u y else if y = Str.ofString "place" then some (.int p tp) else if y = Str.ofString "row" then some (.str (rowD d) t) else none) ∧ lp ∈ news
theorem SGJ.of {d : Nat → Nat} {t tp : Tok} {lp : Addr × Obj} {i : Nat} {m : Str → Option Value} {news : List (Addr × Obj)} {p : Int} (hq : m (Str.ofString "place") = some (.int p tp))
    (hm : ∀ y, y ≠ Str.ofString "sign" → y ≠ Str.ofString "column" → y ≠ Str.ofString "place" → m y = if y = Str.ofString "row" then some (.str (rowD d) t) else none)
    (hl : lp ∈ news) (hp : p = (plD d i : Nat)) : SGJ d t lp i m news :=
  ⟨⟨m, tp, p, hp, dirty2 fun y h1 h2 => by
    by_cases h3 : y = Str.ofString "place"
    · rw [if_pos h3, h3]; exact hq
    · rw [if_neg h3]; exact hm y h1 h2 h3⟩, hl⟩
theorem colS_len (i : Nat) : (colS i).length = radix i := rfl
theorem codeAt_ascii : ∀ i, i < 10 → ∀ k, k < radix i → codeAt i k < 128 := by decide
theorem rowD_ascii {d : Nat → Nat} (hd : ∀ i, i < 10 → d i < radix i) : (rowD d).cps.all (· < 128) = true := by
  have h0 := codeAt_ascii 0 (by omega) _ (hd 0 (by omega)); have h1 := codeAt_ascii 1 (by omega) _ (hd 1 (by omega)); have h2 := codeAt_ascii 2 (by omega) _ (hd 2 (by omega)); have h3 := codeAt_ascii 3 (by omega) _ (hd 3 (by omega)); have h4 := codeAt_ascii 4 (by omega) _ (hd 4 (by omega))
  have h5 := codeAt_ascii 5 (by omega) _ (hd 5 (by omega)); have h6 := codeAt_ascii 6 (by omega) _ (hd 6 (by omega)); have h7 := codeAt_ascii 7 (by omega) _ (hd 7 (by omega)); have h8 := codeAt_ascii 8 (by omega) _ (hd 8 (by omega)); have h9 := codeAt_ascii 9 (by omega) _ (hd 9 (by omega))
  simp [rowD, h0, h1, h2, h3, h4, h5, h6, h7, h8, h9]
theorem news_keep5 {h₀ h : Heap} {L : Addr} {p1 p2 p3 p4 p5 q : Addr × Obj} {news : List (Addr × Obj)} (N : News h₀ L h ([p1, p2, p3, p4, p5] ++ news)) (hm : q ∈ news) : News h₀ L h [p1, p2, p3, p4, p5, q] := by
  intro p hp
  have hp' : p ∈ [p1, p2, p3, p4, p5] ∨ p = q := by
    simp only [List.mem_cons, List.not_mem_nil, or_false] at hp ⊢
    rcases hp with h | h | h | h | h | h <;> simp [h]
  rcases hp' with h | rfl
  · exact N _ (List.mem_append_left _ h)
  · exact N _ (List.mem_append_right _ hm)
theorem cSG (w mean mg mb) (d : Nat → Nat) (hd : ∀ i, i < 10 → d i < radix i) (t : Tok) : Cl w mean mg mb 159 [.str (rowD d) t] (fun t => .int (plD d 10 : Nat) t) := by
  w_top off
  k_with_none
  k_with "storeName" => (k_here; k_dflt (first
    | (refine' stI (by k_asm) (by k_asm) ?_ (by rfl) (by rfl); k_whole; intro t' tk' h' mk F' N'; (try k_sweep))
    | (refine' stV (by k_asm) (by k_asm) ?_ (by rfl) (by rfl); k_whole; intro tk' h' mk F' N'; (try k_sweep))))
  k_with "exec For Tuple Call cons nil" => (k_here; (rename Fr _ _ _ _ => lF'); (with_unfolding_all refine' For_turns lF' ?_; k_whole))
  k_with "call builtin:len" => (k_here; (with_reducible show wpAny _ _ (call (Value.builtin "len") [Value.str _ _]) _ _ _); first | refine len_lit (n := 10) (by rfl) (by decide) ?_ | refine len_lit (colS_len _) (by omega) ?_)
  k_with "compareOp NotIn str str" => (k_here; refine notIn_col (by assumption) ?_)
  k_with "call builtin:str.find" => (k_here; refine find_col (by assumption) ?_)
  unfold Cl
  k_fill
  intro cn cs a ccd base h₀ L m s Q E hB hF hX hT hk hret
  (k_dflt (refine' enter0 (binds := [(Str.ofString "row", .str (rowD d) t)]) hB hF hX hT hk ?k6 ?k7 ?k9 ?kB ?_ ?c2 ?c3 ?c4 ?c5; (case k6 => k_is); (case k7 => k_is); (case k9 => exact BindsTo.of_eq rfl); (case c5 => decide); (case kB => exact locs rfl); (case c2 => exact rfl); (case c3 => exact rfl); (case c4 => exact rfl)))
  intro g' L' h' tk' hG FG' F' N' B' X' T'
  (try dsimp only)
  (try k_lift B')
  (try k_fold)
  k_steps
  rename Fr _ _ _ _ => lF'
  rename News _ _ _ _ => lN'
  refine zipSK (lo2 := _) (ys := _) (n2 := _) (by rfl) lF' lN' ?ha ?hs (List.Mem.head _) (by rfl) (by rfl) ?_
  case ha => exact rowD_ascii hd
  case hs => rfl
  clear lF' lN'
  intro I hI
  k_lt hI
  refine itemsRest_inv (SGJ d t _) ?_ ?_ 10 0 _ _ rfl ⟨List.Mem.head _, trivial⟩ (SGJ.of (by with_unfolding_all rfl) (fun y h1 h2 h3 => by simp +zetaDelta only [h3, if_false, lookup1']) (List.Mem.head _) rfl)
  · intro i a m1 news1 ha hJ _ v h tk hv F2
    obtain ⟨⟨u, tp, p, hp, rfl⟩, hmem⟩ := hJ
    have hi : i < 10 := by
      rcases Nat.lt_or_ge i 10 with h | h
      · exact h
      · rw [List.getElem?_eq_none (by exact h)] at ha; cases ha
    have hp0 : 0 ≤ p := by omega
    have hp1 : p < 32768 := by
      have h1 := plD_lt hd
      have h2 := plD_mono (d := d) (i := i) (j := 10) (by omega) (by omega)
      omega
    have hc := col_contains i (d i) hi (hd i hi)
    have hf := col_find i (d i) hi (hd i hi)
    have hdi := hd i hi
    have hstep : plD d (i + 1) = plD d i * radix i + d i := rfl
    have hr := radix_le i hi
    have hp2 : 0 ≤ p * (radix i : Int) := Int.mul_nonneg hp0 (by omega)
    have hp3 : p * (radix i : Int) < 32768 := by
      have h1 := plD_lt hd
      have h2 := plD_mono (d := d) (i := i + 1) (j := 10) (by omega) (by omega)
      rw [hp, ← Int.natCast_mul]
      omega
    have key : ∃ u : Tok, a = .pair (fun u => .str ⟨#[codeAt i (d i)]⟩ u) (.str (colS i) u) := by
      have hi' : i = 0 ∨ i = 1 ∨ i = 2 ∨ i = 3 ∨ i = 4 ∨ i = 5 ∨ i = 6 ∨ i = 7 ∨ i = 8 ∨ i = 9 := by omega
      rcases hi' with rfl | rfl | rfl | rfl | rfl | rfl | rfl | rfl | rfl | rfl <;> exact ⟨_, (Option.some.inj ha).symm⟩
    obtain ⟨uc, rfl⟩ := key
    clear ha
    obtain ⟨T, tt, rfl, hT'⟩ := hv
    refine AllObj.cons fun o1 hc1 => AllObj.cons fun o2 hc2 => AllObj.cons fun o3 hc3 => AllObj.cons fun o4 hc4 => AllObj.cons fun o5 hc5 => AllObj.nil fun N3 => ?_
    have N4 := news_keep5 N3 hmem
    clear N3
    try dsimp only at hc1 hc2 hc3 hc4 hc5
    replace hT' : IsTup h T #[.str ⟨#[codeAt i (d i)]⟩ tt, .str (colS i) uc] := hT'
    (try k_fold)
    repeat' (first | (k_unfold; (try dsimp only)) | (k_end; wrow_close) | ((with_reducible show wpAny _ _ (execs _ _) _ _ _); k_fold) | walk1 | (dsimp only; walk1) | (leave1; walk_say "STEP leave1"; try dsimp only) | fail "no step")
    all_goals (
      refine SGJ.of (by with_unfolding_all rfl) (fun y h1 h2 h3 => by simp +zetaDelta only [h1, h2, h3, if_false]) (by k_mem) ?_
      rw [hstep, hp]
      omega)
  · intro m1 news1 hJ h tk F3 N3
    obtain ⟨⟨u, tp, p, hp, rfl⟩, hmem⟩ := hJ
    have hp : p = (plD d 10 : Nat) := hp
    k_steps
    refine retI hret ?_ (by k_asm) hG (by k_asm)
    exact hp
end
end Mine
namespace Mine
section
open PySem.Calls PyProof.V
def wt : Nat → Nat
  | 0 => 4096 | 1 => 2048 | 2 => 1024 | 3 => 256 | 4 => 128 | 5 => 64 | 6 => 16 | 7 => 8 | 8 => 4 | _ => 1
def dgs (p : Nat) (i : Nat) : Nat := p / wt i % radix i
def rowP (p : Nat) : Str := rowD (dgs p)
theorem r0 : radix 0 = 8 := rfl
theorem r1 : radix 1 = 2 := rfl
theorem r2 : radix 2 = 2 := rfl
theorem r3 : radix 3 = 4 := rfl
theorem r4 : radix 4 = 2 := rfl
theorem r5 : radix 5 = 2 := rfl
theorem r6 : radix 6 = 4 := rfl
theorem r7 : radix 7 = 2 := rfl
theorem r8 : radix 8 = 2 := rfl
theorem r9 : radix 9 = 4 := rfl
theorem dgs_lt (p : Nat) (i : Nat) (hi : i < 10) : dgs p i < radix i := Nat.mod_lt _ (radix_le i hi).1
theorem wt_step : ∀ i, i < 9 → wt i = radix (i + 1) * wt (i + 1) := by decide
theorem wt_pos : ∀ i, 0 < wt i
  | 0 | 1 | 2 | 3 | 4 | 5 | 6 | 7 | 8 => by decide
  | _ + 9 => Nat.one_pos
theorem plD_dgs_at {p : Nat} (hp : p < 32768) : ∀ i, i < 10 → plD (dgs p) (i + 1) = p / wt i
  | 0, _ => by
    show 0 * 8 + p / 4096 % 8 = p / 4096
    rw [Nat.mod_eq_of_lt ((Nat.div_lt_iff_lt_mul (by decide)).mpr hp)]
    omega
  | i + 1, hi => by
    show plD (dgs p) (i + 1) * radix (i + 1) + p / wt (i + 1) % radix (i + 1) = _
    rw [plD_dgs_at hp i (by omega), wt_step i (by omega), Nat.mul_comm (radix (i + 1)), ← Nat.div_div_eq_div_mul, Nat.mul_comm (_ / _)]
    exact Nat.div_add_mod _ _
theorem plD_dgs {p : Nat} (hp : p < 32768) : plD (dgs p) 10 = p := (plD_dgs_at hp 9 (by decide)).trans (Nat.div_one p)
theorem rowD_congr {d e : Nat → Nat} (h : ∀ i, i < 10 → d i = e i) : rowD d = rowD e := by
  unfold rowD
  rw [h 0 (by decide), h 1 (by decide), h 2 (by decide), h 3 (by decide), h 4 (by decide), h 5 (by decide), h 6 (by decide), h 7 (by decide), h 8 (by decide), h 9 (by decide)]
theorem plD_split {d : Nat → Nat} (hd : ∀ i, i < 10 → d i < radix i) : ∀ k i, i + k = 9 → ∃ r, r < wt i ∧ plD d 10 = plD d (i + 1) * wt i + r
  | 0, i, h => by
    have : i = 9 := by omega
    subst this
    exact ⟨0, Nat.one_pos, (Nat.mul_one _).symm⟩
  | k + 1, i, h => by
    obtain ⟨r, h1, h2⟩ := plD_split hd k (i + 1) (by omega)
    refine ⟨d (i + 1) * wt (i + 1) + r, ?_, ?_⟩
    · rw [wt_step i (by omega)]
      have h3 := Nat.mul_le_mul_right (wt (i + 1)) (hd (i + 1) (by omega))
      rw [Nat.succ_mul] at h3
      omega
    · rw [h2, wt_step i (by omega)]
      show (plD d (i + 1) * radix (i + 1) + d (i + 1)) * wt (i + 1) + r = _
      rw [Nat.add_mul, Nat.mul_assoc, Nat.add_assoc]
theorem dgs_plD {d : Nat → Nat} (hd : ∀ i, i < 10 → d i < radix i) (i : Nat) (hi : i < 10) : d i = dgs (plD d 10) i := by
  obtain ⟨r, h1, h2⟩ := plD_split hd (9 - i) i (by omega)
  unfold dgs
  rw [h2, Nat.mul_comm, Nat.mul_add_div (wt_pos i), Nat.div_eq_of_lt h1, Nat.add_zero]
  show d i = (plD d i * radix i + d i) % radix i
  rw [Nat.mul_comm, Nat.mul_add_mod, Nat.mod_eq_of_lt (hd i hi)]
theorem rowD_row {d : Nat → Nat} (hd : ∀ i, i < 10 → d i < radix i) {q : Nat} (hq : plD d 10 = q) : rowD d = rowP q := by
  subst hq
  exact rowD_congr (dgs_plD hd)
theorem cSGP (w mean mg mb) (p : Nat) (hp : p < 32768) (t : Tok) : Cl w mean mg mb 159 [.str (rowP p) t] (fun t => .int (p : Int) t) := by
  have h := cSG w mean mg mb (dgs p) (dgs_lt p) t
  rw [plD_dgs hp] at h
  exact h
end
end Mine
namespace Mine
section
def rowL (e : Nat → Nat) : List Str := [⟨#[codeAt 0 (e 0)]⟩, ⟨#[codeAt 1 (e 1)]⟩, ⟨#[codeAt 2 (e 2)]⟩, ⟨#[codeAt 3 (e 3)]⟩, ⟨#[codeAt 4 (e 4)]⟩, ⟨#[codeAt 5 (e 5)]⟩, ⟨#[codeAt 6 (e 6)]⟩, ⟨#[codeAt 7 (e 7)]⟩, ⟨#[codeAt 8 (e 8)]⟩, ⟨#[codeAt 9 (e 9)]⟩]
theorem join10 (e : Nat → Nat) : Txt.join (Str.ofString "") (rowL e) = rowD e := by
  rfl
end
end Mine
namespace Mine
section
def cur (d : Nat → Nat) (i j : Nat) : Nat := if j + i < 10 then d j else 0
section
variable {prog : Program} {w : World} {A : Around} {E : Value → Shared → Prop} {s : Shared} {h₀ : Heap} {L : Addr} {m : Str → Option Value} {Q : Value → Shared → Prop}
theorem strsAre_of_get : ∀ (vs : List Value) (ys : List Str), vs.length = ys.length → (∀ (j : Nat) (v : Value), vs[j]? = some v → ∃ y u, ys[j]? = some y ∧ v = .str y u) → StrsAre vs ys
  | [], [], _, _ => .nil
  | v :: vs, y :: ys, hl, h => by
    obtain ⟨y', u, e, rfl⟩ := h 0 v rfl
    have e' : y = y' := by simpa using e
    subst e'
    exact .cons y u (strsAre_of_get vs ys (by simpa using hl) fun j v hv => by simpa using h (j + 1) v (by simpa using hv))
theorem list_strK {X : Str} {t : Tok} {news : List (Addr × Obj)} (hh : A.handled = none) (F : Fr h₀ L s.heap m) (N : News h₀ L s.heap news) (hsz : X.cps.size ≤ sizeLine)
    (h : ∀ D vs c h' tk, StrsAre vs (X.cps.toList.map fun k => (⟨#[k]⟩ : Str)) → Fr h₀ L h' m → News h₀ L h' ((D, W.listOf (List.toArray vs) c) :: news) → (∀ p ∈ news, p.1 < D) → Q (.ref D) { s with heap := h', toks := tk }) :
    wpAny (model prog w) A (call (.type "list") [.str X t]) Q E s := by
  refine call_list_str hh X t (hn := hsz) fun h' tk acc' c' hk hS' hacc => ?_
  refine h s.heap.objs.size acc'.toList c' h' tk ?_ (F.keeps hk) ?_ fun p hp => Heap.lt_size (N p hp).1
  · refine strsAre_of_get _ _ (by simp [hacc.1]) fun j v hv => ?_
    obtain ⟨c, u, hc, rfl⟩ := hacc.2 j v (by simpa using hv)
    exact ⟨⟨#[c]⟩, u, by simp [hc], rfl⟩
  · intro p hp
    rcases List.mem_cons.mp hp with rfl | hp
    · refine ⟨by simpa [W.listOf] using hS', fun e => ?_, next_is_new F⟩
      exact absurd F.ns.lt (e ▸ Nat.lt_irrefl _)
    · exact ⟨hk _ _ (N p hp).1, (N p hp).2⟩
end
def FOJ (d : Nat → Nat) (t : Tok) (l1 l2 : Addr) (lo2 : Obj) (i : Nat) (m : Str → Option Value) (news : List (Addr × Obj)) : Prop :=
  (∃ u : Str → Option Value, m = fun y => if y = Str.ofString "step" then u y else if y = Str.ofString "column" then u y else if y = Str.ofString "worth" then u y else if y = Str.ofString "columns" then some (.ref l2) else if y = Str.ofString "signs" then some (.ref l1) else if y = Str.ofString "row" then some (.str (rowD d) t) else none) ∧
  (∃ vs c, (l1, W.listOf (List.toArray vs) c) ∈ news ∧ StrsAre vs (rowL (cur d i))) ∧ (l2, lo2) ∈ news ∧ ∀ j, j < 10 → 10 ≤ j + i → d j + 1 = radix j
theorem FOJ.of {d : Nat → Nat} {t : Tok} {l1 l2 : Addr} {lo2 : Obj} {i : Nat} {m : Str → Option Value} {news : List (Addr × Obj)} {vs : Array Value} {c : Nat}
    (hm : ∀ y, y ≠ Str.ofString "step" → y ≠ Str.ofString "column" → y ≠ Str.ofString "worth" → m y = if y = Str.ofString "columns" then some (.ref l2) else if y = Str.ofString "signs" then some (.ref l1) else if y = Str.ofString "row" then some (.str (rowD d) t) else none)
    (h1 : (l1, W.listOf vs c) ∈ news) (hs : StrsAre vs.toList (rowL (cur d i))) (h2 : (l2, lo2) ∈ news) (hd : ∀ j, j < 10 → 10 ≤ j + i → d j + 1 = radix j) : FOJ d t l1 l2 lo2 i m news :=
  ⟨⟨m, dirty3 hm⟩, ⟨vs.toList, c, by simpa using h1, hs⟩, h2, hd⟩
theorem news_keep1 {h₀ h : Heap} {L : Addr} {p1 q r : Addr × Obj} {news : List (Addr × Obj)} (N : News h₀ L h ([p1] ++ news)) (hm : q ∈ news) (hr : r ∈ news) : News h₀ L h [p1, q, r] := by
  intro p hp
  simp only [List.mem_cons, List.not_mem_nil, or_false] at hp
  rcases hp with rfl | rfl | rfl
  · exact N _ (List.mem_append_left _ (List.Mem.head _))
  · exact N _ (List.mem_append_right _ hm)
  · exact N _ (List.mem_append_right _ hr)
theorem item_all : ∀ i, i < 10 → ∀ k, k + 1 < radix i → Txt.item (colS i) ((k : Int) + 1) = ⟨#[codeAt i (k + 1)]⟩ := by
  intro i hi k hk
  have h : ∀ i, i < 10 → ∀ k, k < 8 → k + 1 < radix i → Txt.item (colS i) ((k : Int) + 1) = ⟨#[codeAt i (k + 1)]⟩ := by decide +kernel
  have := (radix_le i hi).2
  exact h i hi k (by omega) hk
theorem item_zero : ∀ i, i < 10 → Txt.item (colS i) 0 = ⟨#[codeAt i 0]⟩ := by decide +kernel
theorem rowL_fit (e : Nat → Nat) : ((rowL e).map (·.length)).sum + (rowL e).length ≤ 1048576 := by
  have h : ((rowL e).map (·.length)).sum + (rowL e).length = 20 := rfl
  omega
/-- the figures behind the turn at column k -/
def upD (d : Nat → Nat) (k j : Nat) : Nat := if j < k then d j else if j = k then d k + 1 else 0
theorem upD_lt {d : Nat → Nat} {k : Nat} (hd : ∀ i, i < 10 → d i < radix i) (hk : d k + 1 < radix k) : ∀ i, i < 10 → upD d k i < radix i := by
  intro i hi
  unfold upD
  split
  · exact hd i hi
  split
  · rename_i e; rw [e]; exact hk
  · exact (radix_le i hi).1
theorem plD_up {d : Nat → Nat} {k : Nat} (htop : ∀ j, j < 10 → k < j → d j + 1 = radix j) : ∀ j, j ≤ 10 → plD (upD d k) j = if j ≤ k then plD d j else plD d j + 1
  | 0, _ => by rw [if_pos (Nat.zero_le _)]; rfl
  | j + 1, hj => by
    show plD (upD d k) j * radix j + upD d k j = _
    rw [plD_up htop j (by omega)]
    show _ = if j + 1 ≤ k then plD d j * radix j + d j else plD d j * radix j + d j + 1
    unfold upD
    by_cases h1 : j < k
    · rw [if_pos (by omega), if_pos h1, if_pos (by omega)]
    · by_cases h2 : j = k
      · rw [if_pos (by omega), if_neg h1, if_pos h2, if_neg (by omega), h2]; rfl
      · rw [if_neg (by omega), if_neg h1, if_neg h2, if_neg (by omega), Nat.succ_mul, ← htop j (by omega) (by omega)]; rfl
theorem upD_row {d : Nat → Nat} {k : Nat} (hd : ∀ i, i < 10 → d i < radix i) (hk10 : k < 10) (hk : d k + 1 < radix k) (htop : ∀ j, j < 10 → k < j → d j + 1 = radix j) : rowD (upD d k) = rowP ((plD d 10 + 1) % 32768) := by
  have e : plD (upD d k) 10 = plD d 10 + 1 := by
    rw [plD_up htop 10 (Nat.le_refl _), if_neg (by omega)]
  have h := plD_lt (upD_lt hd hk)
  rw [e] at h
  rw [Nat.mod_eq_of_lt h]
  exact rowD_row (upD_lt hd hk) e
theorem top_row {d : Nat → Nat} (htop : ∀ j, j < 10 → d j + 1 = radix j) : rowD (fun _ => 0) = rowP ((plD d 10 + 1) % 32768) := by
  refine rowD_row (fun i hi => (radix_le i hi).1) ?_
  have h : ∀ j, j ≤ 10 → plD d j + 1 = radP j := by
    intro j
    induction j with
    | zero => intro _; rfl
    | succ j ih =>
      intro hj
      show plD d j * radix j + d j + 1 = radP j * radix j
      rw [← ih (by omega), Nat.succ_mul, Nat.add_assoc, htop j (by omega)]
  rw [h 10 (Nat.le_refl _)]
  decide
theorem news_keep2 {h₀ h : Heap} {L : Addr} {q r : Addr × Obj} {news : List (Addr × Obj)} (N : News h₀ L h news) (hm : q ∈ news) (hr : r ∈ news) : News h₀ L h [q, r] := by
  intro p hp
  simp only [List.mem_cons, List.not_mem_nil, or_false] at hp
  rcases hp with rfl | rfl
  · exact N _ hm
  · exact N _ hr
theorem item_at {prog : Program} {w : World} {A : Around} {E : Value → Shared → Prop} {s : Shared} {value slice : PySem.Expr} {l : Addr} {vs : Array Value} {k : Int} {u : Tok} {v : Value} {Q : Value → Shared → Prop}
    (hl : s.heap.IsList l vs) (h0 : 0 ≤ k) (hhi : k < 2 ^ 63) (hx : vs[k.toNat]? = some v) (h : Q v s)
    (hs : subscripted slice false (.ref l) (.int k u) = operate [.ref l, .int k u] (getItem (.ref l) (.int k u))) :
    wpAny (model prog w) A (subscriptTail value slice (.ref l) (.int k u)) Q E s :=
  tail_any hl.typeIs slot_list_getitem.lookup (wpAny_getItem_list hl h0 hhi hx h) hs
theorem ki_setL_some : ∀ (l : List Value) (k : Nat) (v : Value), k < l.length → ki_setL l k v = some (l.set k v)
  | [], _, _, h => absurd h (Nat.not_lt_zero _)
  | _ :: _, 0, _, _ => rfl
  | x :: r, k + 1, v, h => by
    show (match ki_setL r k v with | some q => some (x :: q) | none => none) = _
    rw [ki_setL_some r k v (Nat.lt_of_succ_lt_succ h)]
    rfl
theorem StrsAre_get : ∀ {vs : List Value} {ys : List Str} {j : Nat} {y : Str}, StrsAre vs ys → ys[j]? = some y → ∃ u, vs[j]? = some (.str y u)
  | _, _, 0, _, .cons y u _, h => ⟨u, by cases h; rfl⟩
  | _, _, j + 1, _, .cons _ _ r, h => StrsAre_get (j := j) r h
theorem StrsAre_set : ∀ {vs : List Value} {ys : List Str} (j : Nat) (x : Str) (t : Tok), StrsAre vs ys → StrsAre (vs.set j (.str x t)) (ys.set j x)
  | _, _, _, _, _, .nil => .nil
  | _, _, 0, x, t, .cons _ _ r => .cons x t r
  | _, _, j + 1, x, t, .cons y u r => .cons y u (StrsAre_set j x t r)
/-- a list of the ten columns -/
def ColsAre (cv : Array Value) : Prop := ∀ i, i < 10 → ∃ u : Tok, cv[i]? = some (.str (colS i) u)
theorem colsAre_lit {t0 t1 t2 t3 t4 t5 t6 t7 t8 t9 : Tok} : ColsAre #[.str (Str.ofString "-?bcdlps") t0, .str (Str.ofString "-r") t1, .str (Str.ofString "-w") t2, .str (Str.ofString "-Ssx") t3, .str (Str.ofString "-r") t4, .str (Str.ofString "-w") t5, .str (Str.ofString "-Ssx") t6, .str (Str.ofString "-r") t7, .str (Str.ofString "-w") t8, .str (Str.ofString "-Ttx") t9]
  | 0, _ => ⟨_, rfl⟩ | 1, _ => ⟨_, rfl⟩ | 2, _ => ⟨_, rfl⟩ | 3, _ => ⟨_, rfl⟩ | 4, _ => ⟨_, rfl⟩ | 5, _ => ⟨_, rfl⟩ | 6, _ => ⟨_, rfl⟩ | 7, _ => ⟨_, rfl⟩ | 8, _ => ⟨_, rfl⟩ | 9, _ => ⟨_, rfl⟩
theorem news_gen {h₀ h : Heap} {L l2 : Addr} {c2 : Nat} {p : Addr × Obj} {cv : Array Value} (N : News h₀ L h [(l2, W.listOf cv c2), p]) (hC : ColsAre cv) : ∃ cv', ColsAre cv' ∧ News h₀ L h [(l2, W.listOf cv' c2), p] := ⟨cv, hC, N⟩
theorem rowL_at (d : Nat → Nat) : ∀ i, i < 10 → (rowL (cur d i))[9 - i]? = some ⟨#[codeAt (9 - i) (d (9 - i))]⟩
  | 0, _ => rfl | 1, _ => rfl | 2, _ => rfl | 3, _ => rfl | 4, _ => rfl | 5, _ => rfl | 6, _ => rfl | 7, _ => rfl | 8, _ => rfl | 9, _ => rfl
theorem rowL_zero (d : Nat → Nat) : ∀ i, i < 10 → (rowL (cur d i)).set (9 - i) ⟨#[codeAt (9 - i) 0]⟩ = rowL (cur d (i + 1))
  | 0, _ => rfl | 1, _ => rfl | 2, _ => rfl | 3, _ => rfl | 4, _ => rfl | 5, _ => rfl | 6, _ => rfl | 7, _ => rfl | 8, _ => rfl | 9, _ => rfl
theorem rowL_up (d : Nat → Nat) : ∀ i, i < 10 → (rowL (cur d i)).set (9 - i) ⟨#[codeAt (9 - i) (d (9 - i) + 1)]⟩ = rowL (upD d (9 - i))
  | 0, _ => rfl | 1, _ => rfl | 2, _ => rfl | 3, _ => rfl | 4, _ => rfl | 5, _ => rfl | 6, _ => rfl | 7, _ => rfl | 8, _ => rfl | 9, _ => rfl
theorem cFO (w mean mg mb) (d : Nat → Nat) (hd : ∀ i, i < 10 → d i < radix i) (t : Tok) : Cl w mean mg mb 173 [.str (rowD d) t] (fun t => .str (rowP ((plD d 10 + 1) % 32768)) t) := by
  w_top off
  k_with_none
  k_with "storeName" => (k_here; k_dflt (first
    | (refine' stI (by k_asm) (by k_asm) ?_ (by rfl) (by rfl); k_whole; intro t' tk' h' mk F' N'; (try k_sweep))
    | (refine' stV (by k_asm) (by k_asm) ?_ (by rfl) (by rfl); k_whole; intro tk' h' mk F' N'; (try k_sweep))))
  k_with "exec For Name Call cons nil" => (k_here; (rename Fr _ _ _ _ => lF'); (with_unfolding_all refine' For_turns lF' ?_; k_whole))
  k_with "call type:list" => (k_here; (with_reducible show wpAny _ _ (call (Value.type "list") [Value.str _ _]) _ _ _); k_dflt (refine' list_strK (by with_unfolding_all rfl) (by k_asm) (by k_asm) (show 10 ≤ sizeLine by decide) ?_); intro D' vs' c' h' tk' hvs' F' N' l1; (try k_lt l1); (try k_sweep))
  k_with "call builtin:str.find" => (k_here; refine find_col (by assumption) ?_)
  k_with "call builtin:len" => (k_here; (with_reducible show wpAny _ _ (call (Value.builtin "len") [Value.str _ _]) _ _ _); refine len_lit (colS_len _) (by omega) ?_)
  k_with "setItem ref int" => (k_here; k_dflt (refine' ki_set (by k_asm) (by k_asm) (by omega) (by omega) (ki_setL_some _ _ _ (by assumption)) (by k_upd) ?_); intro h' F' N'; (try k_sweep))
  k_with "subscriptTail Name BinOp ref int" => (k_here; (with_reducible show wpAny _ _ (subscriptTail _ _ (Value.ref _) (Value.int _ _)) _ _ _); k_dflt (first | refine' item_at (News.isList (by k_asm) (by k_mem)) (by omega) (by omega) hcol ?_ (by with_unfolding_all rfl) | refine' item_at (News.isList (by k_asm) (by k_mem)) (by omega) (by omega) hsgn ?_ (by with_unfolding_all rfl)); k_whole)
  unfold Cl
  k_fill
  intro cn cs a ccd base h₀ L m s Q E hB hF hX hT hk hret
  (k_dflt (refine' enter0 (binds := [(Str.ofString "row", .str (rowD d) t)]) hB hF hX hT hk ?k6 ?k7 ?k9 ?kB ?_ ?c2 ?c3 ?c4 ?c5; (case k6 => k_is); (case k7 => k_is); (case k9 => exact BindsTo.of_eq rfl); (case c5 => decide); (case kB => exact locs rfl); (case c2 => exact rfl); (case c3 => exact rfl); (case c4 => exact rfl)))
  intro g' L' h' tk' hG FG' F' N' B' X' T'
  (try dsimp only)
  (try k_lift B')
  (try k_fold)
  repeat' (first | (k_unfold; (try dsimp only)) | (k_end; wrow_close) | ((with_reducible show wpAny _ _ (execs _ _) _ _ _); k_fold) | walk1 | (dsimp only; walk1) | (leave1; walk_say "STEP leave1"; try dsimp only) | fail "no step")
  rename Fr _ _ _ _ => lF'
  rename News _ _ _ _ => lN'
  rename IsRange _ _ _ _ _ _ _ _ => hr'
  rename StrsAre _ _ => hvs'
  obtain ⟨cv, hC, lN2⟩ := news_gen lN' colsAre_lit
  clear lN'
  refine iter_rangeK (n := 10) (by rfl) hr' (by decide) (by rfl) lF' lN2 ?_
  intro I hI
  k_lt hI
  refine itemsRest_inv (FOJ d t _ _ _) ?_ ?_ 10 0 _ _ rfl trivial (FOJ.of (fun y h1 h2 h3 => by simp +zetaDelta only [lookup1']) (List.Mem.tail _ (List.Mem.head _)) hvs' (List.Mem.head _) (fun j h1 h2 => by omega))
  clear lF' lN2 hr' hvs'
  · intro i a m1 news1 ha hJ _ v h tk hv F2
    obtain ⟨⟨u, rfl⟩, ⟨vs, c, hmem1, hvs⟩, hmem2, htop⟩ := hJ
    obtain ⟨hi, rfl⟩ := rangeItems_at ha
    clear ha
    obtain ⟨tt, rfl⟩ := hv
    refine AllObj.cons fun o1 hc1 => AllObj.nil fun N3 => ?_
    have N4 := news_keep1 N3 hmem1 hmem2
    clear N3 hmem1 hmem2
    try dsimp only at hc1
    have hq : (9 - (i : Int)).toNat = 9 - i := by omega
    have hq10 : 9 - i < 10 := by omega
    have hf := col_find (9 - i) (d (9 - i)) hq10 (hd _ hq10)
    have hdk := hd _ hq10
    have hrx := radix_le (9 - i) hq10
    obtain ⟨us, hsgn⟩ := StrsAre_get hvs (rowL_at d i hi)
    have hlt : (9 - (i : Int)).toNat < vs.toArray.toList.length := by
      have hl : vs.length = 10 := hvs.length
      rw [List.toList_toArray, hl, hq]; omega
    replace hsgn : vs.toArray[(9 - (i : Int)).toNat]? = some (.str ⟨#[codeAt (9 - i) (d (9 - i))]⟩ us) := by rw [hq, List.getElem?_toArray]; exact hsgn
    obtain ⟨uc, hcol⟩ := hC (9 - i) hq10
    replace hcol : cv[(9 - (i : Int)).toNat]? = some (.str (colS (9 - i)) uc) := by rw [hq]; exact hcol
    have hL := colS_len (9 - i)
    dsimp only
    repeat' (first | (k_unfold; (try dsimp only)) | (k_end; wrow_close) | ((with_reducible show wpAny _ _ (execs _ _) _ _ _); k_fold) | walk1 | (dsimp only; walk1) | (leave1; walk_say "STEP leave1"; try dsimp only) | fail "no step")
    · have hlt2 : d (9 - i) + 1 < radix (9 - i) := by omega
      have hit := item_all (9 - i) hq10 (d (9 - i)) hlt2
      refine join_listW (ys := rowL (upD d (9 - i))) (by is_list) ?_ (by decide +kernel) (rowL_fit _) ?_
      · show StrsAre (vs.toArray.toList.set _ _) _
        rw [hq, hit, ← rowL_up d i hi]
        exact StrsAre_set _ _ _ hvs
      intro t' k'
      repeat' (first | (k_unfold; (try dsimp only)) | (k_end; wrow_close) | ((with_reducible show wpAny _ _ (execs _ _) _ _ _); k_fold) | walk1 | (dsimp only; walk1) | (leave1; walk_say "STEP leave1"; try dsimp only) | fail "no step")
      refine retS hret ?_ (by k_asm) hG (by k_asm)
      rw [join10]
      exact upD_row hd hq10 hlt2 (fun j h1 h2 => htop j h1 (by omega))
    · have hlt2 : ¬ d (9 - i) + 1 < radix (9 - i) := by omega
      refine FOJ.of (fun y h1 h2 h3 => by simp +zetaDelta only [h1, h2, h3, if_false]) (by k_mem) ?_ (by k_mem) ?_
      · show StrsAre (vs.toArray.toList.set _ _) _
        rw [hq, item_zero _ hq10, ← rowL_zero d i hi]
        exact StrsAre_set _ _ _ hvs
      · intro j h1 h2
        by_cases hj : j = 9 - i
        · subst hj
          omega
        · exact htop j h1 (by omega)
  · intro m1 news1 hJ h tk F3 N3
    obtain ⟨⟨u, rfl⟩, ⟨vs, c, hmem1, hvs⟩, hmem2, htop⟩ := hJ
    have N4 := news_keep2 N3 hmem1 hmem2
    clear N3
    repeat' (first | (k_unfold; (try dsimp only)) | (k_end; wrow_close) | ((with_reducible show wpAny _ _ (execs _ _) _ _ _); k_fold) | walk1 | (dsimp only; walk1) | (leave1; walk_say "STEP leave1"; try dsimp only) | fail "no step")
    refine' join_listW (ys := rowL (fun _ => 0)) ?hlz ?hsz ?hxz ?hwz ?_
    case hlz => is_list
    case hsz => exact hvs
    case hxz => decide +kernel
    case hwz => exact rowL_fit _
    intro t' k'
    k_steps
    refine retS hret ?_ (by k_asm) hG (by k_asm)
    rw [join10]
    exact top_row (fun j h1 => htop j h1 (by show 10 ≤ j + 10; omega))
end
end Mine
namespace Mine
section
theorem and_even (x y : Int) : Builtin.bitAnd x (2 * y) = 2 * Builtin.bitAnd (x / 2) y := by
  have h := kbt_halves x (2 * y)
  rw [if_neg (by omega)] at h
  rw [h, show 2 * y / 2 = y by omega]
  omega
theorem and_odd (x y : Int) : Builtin.bitAnd x (2 * y + 1) = 2 * Builtin.bitAnd (x / 2) y + x % 2 := by
  have h := kbt_halves x (2 * y + 1)
  rw [h, show (2 * y + 1) / 2 = y by omega]
  by_cases hx : x % 2 = 1
  · rw [if_pos ⟨hx, by omega⟩]; omega
  · rw [if_neg (by omega)]; omega
theorem and_shift (y : Int) : ∀ (k : Nat) (x : Int), Builtin.bitAnd x (2 ^ k * y) = 2 ^ k * Builtin.bitAnd (x / 2 ^ k) y
  | 0, x => by simp
  | k + 1, x => by
    have e : (2 : Int) ^ (k + 1) * y = 2 * (2 ^ k * y) := by rw [Int.pow_succ, Int.mul_comm (2 ^ k) 2, Int.mul_assoc]
    rw [e, and_even, and_shift y k, Int.ediv_ediv_of_nonneg (by omega), show (2 : Int) * 2 ^ k = 2 ^ (k + 1) by rw [Int.pow_succ, Int.mul_comm], ← Int.mul_assoc, show (2 : Int) * 2 ^ k = 2 ^ (k + 1) by rw [Int.pow_succ, Int.mul_comm]]
theorem and_one (x : Int) : Builtin.bitAnd x 1 = x % 2 := bitAnd_m1 x
theorem and_bit (x : Int) (k : Nat) (y : Int) (hy : y = 2 ^ k) : Builtin.bitAnd x y = 2 ^ k * (x / 2 ^ k % 2) := by
  subst hy
  have h := and_shift 1 k x
  rw [Int.mul_one] at h
  rw [h, and_one]
/-- two bits, the lower at j, the upper at j + k + 1 -/
theorem and_two (x : Int) (j k : Nat) (y : Int) (hy : y = 2 ^ j * (2 * 2 ^ k + 1)) : Builtin.bitAnd x y = 2 ^ j * (2 * (2 ^ k * (x / 2 ^ j / 2 / 2 ^ k % 2)) + x / 2 ^ j % 2) := by
  subst hy
  rw [and_shift, and_odd, and_bit _ k _ rfl]
theorem and_kind (x : Int) (h0 : 0 ≤ x) (h1 : x < 65536) : Builtin.bitAnd x 61440 = 4096 * (x / 4096) := by
  have h := and_shift 15 12 x
  rw [show (2 : Int) ^ 12 * 15 = 61440 by decide, show (2 : Int) ^ 12 = 4096 by decide, bitAnd_m4] at h
  rw [h]
  omega
theorem and_mode (x : Int) : Builtin.bitAnd x 4095 = x % 4096 := by
  have h := kbt_mask x 12
  rw [show (2 : Int) ^ 12 = 4096 by decide] at h
  exact h
theorem and_sum (x : Int) (h0 : 0 ≤ x) (h1 : x < 65536) : Builtin.bitAnd x 61440 + Builtin.bitAnd x 4095 = x := by
  rw [and_kind x h0 h1, and_mode]
  omega
theorem fdiv_pos (a b : Int) (hb : 0 ≤ b) : a.fdiv b = a / b := by rw [Int.fdiv_eq_ediv_of_nonneg a hb]
theorem fmod_pos (a b : Int) (hb : 0 ≤ b) : a.fmod b = a % b := by rw [Int.fmod_eq_emod_of_nonneg a hb]
end
end Mine
namespace Mine
section
def gry (x s : Nat) : Nat := if x = 1 then 3 - s else s
/-- the figure of a place: three rights' figure t, special s; and back -/
def fF (t s : Nat) : Nat := t / 2 * 4 + gry (t % 2) s
def fS (f : Nat) : Nat := (f / 2 + f) % 2
def fT (f : Nat) : Nat := f / 4 * 2 + f / 2 % 2
theorem fF_all : ∀ t, t < 8 → ∀ s, s < 2 → fF t s < 16 ∧ fS (fF t s) = s ∧ fT (fF t s) = t ∧ fF t s / 8 = t / 4 ∧ fF t s / 4 % 2 = t / 2 % 2 ∧ fF t s % 4 = gry (t % 2) s := by decide
theorem fT_all : ∀ f, f < 16 → fT f < 8 ∧ fS f < 2 ∧ fF (fT f) (fS f) = f := by decide
def kx (K : Nat) : Nat := kindIx (4096 * (K : Int))
theorem kx_lt (K : Nat) : kx K < 8 := kindIx_lt _
/-- a place out of its four figures; a mode out of its five -/
def plc (k f0 f1 f2 : Nat) : Nat := ((k * 16 + f0) * 16 + f1) * 16 + f2
def mde (K s0 s1 s2 t0 t1 t2 : Nat) : Nat := (K * 8 + (s0 * 4 + s1 * 2 + s2)) * 512 + (t0 * 64 + t1 * 8 + t2)
theorem mde_of (N : Nat) : N = mde (N / 4096) (N / 2048 % 2) (N / 1024 % 2) (N / 512 % 2) (N / 64 % 8) (N / 8 % 8) (N % 8) := by
  unfold mde
  have hv : ∀ c : Nat, N / c = 2 * (N / (c * 2)) + N / c % 2 := fun c => by rw [← Nat.div_div_eq_div_mul]; exact (Nat.div_add_mod _ _).symm
  have ho : ∀ c : Nat, N / c = 8 * (N / (c * 8)) + N / c % 8 := fun c => by rw [← Nat.div_div_eq_div_mul]; exact (Nat.div_add_mod _ _).symm
  have h1 : N / 512 = N / 4096 * 8 + (N / 2048 % 2 * 4 + N / 1024 % 2 * 2 + N / 512 % 2) := by
    have a1 := hv 512; have a2 := hv 1024; have a3 := hv 2048
    clear hv ho
    generalize N / 2048 % 2 = x at *
    generalize N / 1024 % 2 = y at *
    generalize N / 512 % 2 = z at *
    generalize N / 512 = a at *
    rw [show 512 * 2 = 1024 from rfl] at a1
    rw [show 1024 * 2 = 2048 from rfl] at a2
    rw [show 2048 * 2 = 4096 from rfl] at a3
    generalize N / 1024 = b at *
    generalize N / 2048 = c at *
    generalize N / 4096 = d at *
    omega
  have h2 : N = N / 512 * 512 + (N / 64 % 8 * 64 + N / 8 % 8 * 8 + N % 8) := by
    have a1 := ho 1; have a2 := ho 8; have a3 := ho 64
    clear hv ho h1
    rw [Nat.div_one, show 1 * 8 = 8 from rfl] at a1
    rw [show 8 * 8 = 64 from rfl] at a2
    rw [show 64 * 8 = 512 from rfl] at a3
    generalize N / 64 % 8 = x at *
    generalize N / 8 % 8 = y at *
    generalize N % 8 = z at *
    generalize N / 512 = a at *
    generalize N / 64 = b at *
    generalize N / 8 = c at *
    omega
  rw [← h1]
  exact h2
section
variable {K s0 s1 s2 t0 t1 t2 : Nat}
theorem mde_hi (h0 : t0 < 8) (h1 : t1 < 8) (h2 : t2 < 8) : mde K s0 s1 s2 t0 t1 t2 / 512 = K * 8 + (s0 * 4 + s1 * 2 + s2) := by
  unfold mde
  generalize K * 8 + (s0 * 4 + s1 * 2 + s2) = c
  omega
theorem mde_lo (h0 : t0 < 8) (h1 : t1 < 8) (h2 : t2 < 8) : mde K s0 s1 s2 t0 t1 t2 % 512 = t0 * 64 + t1 * 8 + t2 := by
  unfold mde
  generalize K * 8 + (s0 * 4 + s1 * 2 + s2) = c
  omega
theorem hi_back {c : Nat} (a0 : s0 < 2) (a1 : s1 < 2) (a2 : s2 < 2) (e : c = K * 8 + (s0 * 4 + s1 * 2 + s2)) : c / 8 = K ∧ c / 4 % 2 = s0 ∧ c / 2 % 2 = s1 ∧ c % 2 = s2 := by
  refine ⟨?_, ?_, ?_, ?_⟩ <;> omega
theorem lo_back {c : Nat} (h0 : t0 < 8) (h1 : t1 < 8) (h2 : t2 < 8) (e : c = t0 * 64 + t1 * 8 + t2) : c / 64 = t0 ∧ c / 8 % 8 = t1 ∧ c % 8 = t2 := by
  refine ⟨?_, ?_, ?_⟩ <;> omega
theorem mde_back (a0 : s0 < 2) (a1 : s1 < 2) (a2 : s2 < 2) (h0 : t0 < 8) (h1 : t1 < 8) (h2 : t2 < 8) {N : Nat} (e : N = mde K s0 s1 s2 t0 t1 t2) :
    N / 4096 = K ∧ N / 2048 % 2 = s0 ∧ N / 1024 % 2 = s1 ∧ N / 512 % 2 = s2 ∧ N / 64 % 8 = t0 ∧ N / 8 % 8 = t1 ∧ N % 8 = t2 := by
  obtain ⟨b1, b2, b3, b4⟩ := hi_back (c := N / 512) a0 a1 a2 (by rw [e]; exact mde_hi h0 h1 h2)
  obtain ⟨c1, c2, c3⟩ := lo_back (c := N % 512) h0 h1 h2 (by rw [e]; exact mde_lo h0 h1 h2)
  rw [Nat.div_div_eq_div_mul] at b1 b2 b3
  refine ⟨b1, b2, b3, b4, ?_, ?_, ?_⟩
  · rw [← c1]; omega
  · rw [← c2]; omega
  · rw [← c3]; omega
end
theorem and_mod (N : Nat) : Builtin.bitAnd (N : Int) 4095 = ((N % 4096 : Nat) : Int) := by rw [and_mode]; rfl
theorem thr_at (N k c : Nat) (e : (2 : Int) ^ (6 - 3 * (k : Int)).toNat = (c : Int)) : thr (N : Int) (k : Int) = ((N % 4096 / c % 8 : Nat) : Int) := by
  unfold thr
  rw [and_mod, e, fdiv_pos _ _ (by omega), fmod_pos _ _ (by decide)]
  rfl
theorem spe_at (N k c : Nat) (e : (2 : Int) ^ (11 - (k : Int)).toNat = (c : Int)) : spe (N : Int) (k : Int) = ((N % 4096 / c % 2 : Nat) : Int) := by
  unfold spe
  rw [and_mod, e, fdiv_pos _ _ (by omega), fmod_pos _ _ (by decide)]
  rfl
theorem gray_at (N k t s : Nat) (ht : thr (N : Int) (k : Int) = (t : Int)) (hs : spe (N : Int) (k : Int) = (s : Int)) (h : s < 2) : (thr (N : Int) (k : Int)).fdiv 2 * 4 + gray (N : Int) (k : Int) = ((fF t s : Nat) : Int) := by
  unfold gray fF gry
  rw [ht, hs, fdiv_pos _ _ (by decide), fmod_pos _ _ (by decide)]
  by_cases e : t % 2 = 1
  · rw [if_pos (by omega), if_pos e]; omega
  · rw [if_neg (by omega), if_neg e]; omega
/-- the place of a mode -/
def pl (n : Int) : Nat := (pbF n).toNat
theorem mc (N c d e : Nat) (h : 4096 = c * d) (hd : e ∣ d) : N % 4096 / c % e = N / c % e := by rw [h, Nat.mod_mul_right_div_self, Nat.mod_mod_of_dvd _ hd]
theorem pb_at (N : Nat) (hN : N < 65536) : pbF (N : Int) = ((plc (kx (N / 4096)) (fF (N / 64 % 8) (N / 2048 % 2)) (fF (N / 8 % 8) (N / 1024 % 2)) (fF (N % 8) (N / 512 % 2)) : Nat) : Int) := by
  have hk : Builtin.bitAnd (N : Int) 61440 = 4096 * ((N / 4096 : Nat) : Int) := by rw [and_kind _ (by omega) (by omega)]; rfl
  have g0 := gray_at N 0 (N / 64 % 8) (N / 2048 % 2) (by rw [thr_at N 0 64 (by decide), mc N 64 64 8 rfl ⟨8, rfl⟩]) (by rw [spe_at N 0 2048 (by decide), mc N 2048 2 2 rfl ⟨1, rfl⟩]) (Nat.mod_lt _ (by decide))
  have g1 := gray_at N 1 (N / 8 % 8) (N / 1024 % 2) (by rw [thr_at N 1 8 (by decide), mc N 8 512 8 rfl ⟨64, rfl⟩]) (by rw [spe_at N 1 1024 (by decide), mc N 1024 4 2 rfl ⟨2, rfl⟩]) (Nat.mod_lt _ (by decide))
  have g2 := gray_at N 2 (N % 8) (N / 512 % 2) (by rw [thr_at N 2 1 (by decide), mc N 1 4096 8 rfl ⟨512, rfl⟩, Nat.div_one]) (by rw [spe_at N 2 512 (by decide), mc N 512 8 2 rfl ⟨4, rfl⟩]) (Nat.mod_lt _ (by decide))
  show ((((kindIx _ : Nat) : Int) * 16 + (thr (N : Int) ((0 : Nat) : Int)).fdiv 2 * 4 + gray (N : Int) ((0 : Nat) : Int)) * 16 + (thr (N : Int) ((1 : Nat) : Int)).fdiv 2 * 4 + gray (N : Int) ((1 : Nat) : Int)) * 16 + (thr (N : Int) ((2 : Nat) : Int)).fdiv 2 * 4 + gray (N : Int) ((2 : Nat) : Int) = _
  rw [Int.add_assoc, Int.add_assoc, Int.add_assoc, g0, g1, g2, hk]
  rfl
theorem pl_at (N : Nat) (hN : N < 65536) : pl (N : Int) = plc (kx (N / 4096)) (fF (N / 64 % 8) (N / 2048 % 2)) (fF (N / 8 % 8) (N / 1024 % 2)) (fF (N % 8) (N / 512 % 2)) := by
  unfold pl
  rw [pb_at N hN]
  rfl
theorem pbF_pl (n : Int) (h0 : 0 ≤ n) (h1 : n < 65536) : pbF n = (pl n : Int) := by
  obtain ⟨N, rfl⟩ := Int.eq_ofNat_of_zero_le h0
  rw [pl_at N (by omega), pb_at N (by omega)]
theorem plc_lt {k f0 f1 f2 : Nat} (hk : k < 8) (h0 : f0 < 16) (h1 : f1 < 16) (h2 : f2 < 16) : plc k f0 f1 f2 < 32768 := by unfold plc; omega
theorem pl_lt (n : Int) (h0 : 0 ≤ n) (h1 : n < 65536) : pl n < 32768 := by
  obtain ⟨N, rfl⟩ := Int.eq_ofNat_of_zero_le h0
  rw [pl_at N (by omega)]
  exact plc_lt (kx_lt _) (fF_all _ (Nat.mod_lt _ (by decide)) _ (Nat.mod_lt _ (by decide))).1 (fF_all _ (Nat.mod_lt _ (by decide)) _ (Nat.mod_lt _ (by decide))).1 (fF_all _ (Nat.mod_lt _ (by decide)) _ (Nat.mod_lt _ (by decide))).1
/-- a place's ten digits -/
def dM (k f0 f1 f2 : Nat) : Nat → Nat
  | 0 => k | 1 => f0 / 8 | 2 => f0 / 4 % 2 | 3 => f0 % 4 | 4 => f1 / 8 | 5 => f1 / 4 % 2 | 6 => f1 % 4 | 7 => f2 / 8 | 8 => f2 / 4 % 2 | _ => f2 % 4
theorem f_split (k f : Nat) : (((k * 2 + f / 8) * 2 + f / 4 % 2) * 4 + f % 4) = k * 16 + f := by omega
theorem dM_lt {k f0 f1 f2 : Nat} (hk : k < 8) (h0 : f0 < 16) (h1 : f1 < 16) (h2 : f2 < 16) : ∀ i, i < 10 → dM k f0 f1 f2 i < radix i
  | 0, _ => hk
  | 1, _ => (Nat.div_lt_iff_lt_mul (by decide)).mpr h0
  | 4, _ => (Nat.div_lt_iff_lt_mul (by decide)).mpr h1
  | 7, _ => (Nat.div_lt_iff_lt_mul (by decide)).mpr h2
  | 2, _ | 5, _ | 8, _ | 3, _ | 6, _ | 9, _ => Nat.mod_lt _ (by decide)
theorem plD_dM (k f0 f1 f2 : Nat) : plD (dM k f0 f1 f2) 10 = plc k f0 f1 f2 := by
  show (((((((((((0 * 8 + k) * 2 + f0 / 8) * 2 + f0 / 4 % 2) * 4 + f0 % 4) * 2 + f1 / 8) * 2 + f1 / 4 % 2) * 4 + f1 % 4) * 2 + f2 / 8) * 2 + f2 / 4 % 2) * 4 + f2 % 4)) = _
  rw [Nat.zero_mul, Nat.zero_add, f_split, f_split, f_split]
  rfl
theorem bit_iff (N k : Nat) (y : Int) (hy : y = 2 ^ k) : Builtin.bitAnd (N : Int) y = y ↔ N / 2 ^ k % 2 = 1 := by
  rw [and_bit _ k y hy, hy]
  have e : (N : Int) / 2 ^ k % 2 = ((N / 2 ^ k % 2 : Nat) : Int) := by
    rw [Int.natCast_emod, Int.natCast_ediv, Int.natCast_pow]; rfl
  rw [e]
  have hp : (0 : Int) < 2 ^ k := Int.pow_pos (by decide)
  have hb : N / 2 ^ k % 2 = 0 ∨ N / 2 ^ k % 2 = 1 := by omega
  rcases hb with h | h <;> rw [h]
  · refine ⟨fun q => ?_, fun q => by cases q⟩
    have q' : (2 : Int) ^ k * 0 = 2 ^ k := q
    rw [Int.mul_zero] at q'
    exact absurd q'.symm (Int.ne_of_gt hp)
  · exact ⟨fun _ => rfl, fun _ => Int.mul_one _⟩
theorem two_iff (N j k : Nat) (y : Int) (hy : y = 2 ^ j * (2 * 2 ^ k + 1)) : Builtin.bitAnd (N : Int) y = y ↔ (N / 2 ^ j % 2 = 1 ∧ N / 2 ^ j / 2 / 2 ^ k % 2 = 1) := by
  rw [and_two _ j k y hy, hy]
  have e1 : (N : Int) / 2 ^ j % 2 = ((N / 2 ^ j % 2 : Nat) : Int) := by
    rw [Int.natCast_emod, Int.natCast_ediv, Int.natCast_pow]; rfl
  have e2 : (N : Int) / 2 ^ j / 2 / 2 ^ k % 2 = ((N / 2 ^ j / 2 / 2 ^ k % 2 : Nat) : Int) := by
    rw [Int.natCast_emod, Int.natCast_ediv, Int.natCast_ediv, Int.natCast_ediv, Int.natCast_pow, Int.natCast_pow]; rfl
  rw [e1, e2]
  have hp : (2 : Int) ^ j ≠ 0 := Int.ne_of_gt (Int.pow_pos (by decide))
  have hk : (0 : Int) < 2 ^ k := Int.pow_pos (by decide)
  have ha : N / 2 ^ j % 2 = 0 ∨ N / 2 ^ j % 2 = 1 := by omega
  have hb : N / 2 ^ j / 2 / 2 ^ k % 2 = 0 ∨ N / 2 ^ j / 2 / 2 ^ k % 2 = 1 := by omega
  rw [Int.mul_eq_mul_left_iff hp]
  generalize (2 : Int) ^ k = c at hk
  clear e1 e2 hp
  rcases ha with h | h <;> rcases hb with h' | h' <;> rw [h, h'] <;> clear h h' <;> omega
theorem tb4 (N s : Nat) : N / s % 8 / 4 = N / (s * 4) % 2 := by rw [← Nat.div_div_eq_div_mul]; exact Nat.mod_mul_right_div_self _ 4 2
theorem tb2 (N s : Nat) : N / s % 8 / 2 % 2 = N / (s * 2) % 2 := by
  rw [← Nat.div_div_eq_div_mul, show N / s % 8 / 2 = N / s / 2 % 4 from Nat.mod_mul_right_div_self _ 2 4]
  exact Nat.mod_mod_of_dvd _ ⟨2, rfl⟩
theorem tb1 (N : Nat) : N % 8 % 2 = N % 2 := Nat.mod_mod_of_dvd _ ⟨4, rfl⟩
theorem one_sign (i b : Nat) (P : Prop) [Decidable P] (y z : Str) (h : P ↔ b = 1) (hb : b < 2) (hy : y = ⟨#[codeAt i 1]⟩) (hz : z = ⟨#[codeAt i 0]⟩) : (if P then y else z) = ⟨#[codeAt i b]⟩ := by
  by_cases hp : P
  · rw [if_pos hp, h.mp hp]; exact hy
  · have : b = 0 := by
      have : b ≠ 1 := fun e => hp (h.mpr e)
      omega
    rw [if_neg hp, this]; exact hz
theorem three_sign (i x s : Nat) (P1 P2 P3 : Prop) [Decidable P1] [Decidable P2] [Decidable P3] (y1 y2 y3 y4 : Str) (h1 : P1 ↔ (x = 1 ∧ s = 1)) (h2 : P2 ↔ s = 1) (h3 : P3 ↔ x = 1) (hx : x < 2) (hs : s < 2)
    (e1 : y1 = ⟨#[codeAt i 2]⟩) (e2 : y2 = ⟨#[codeAt i 1]⟩) (e3 : y3 = ⟨#[codeAt i 3]⟩) (e4 : y4 = ⟨#[codeAt i 0]⟩) : (if P1 then y1 else if P2 then y2 else if P3 then y3 else y4) = ⟨#[codeAt i (gry x s)]⟩ := by
  have hx' : x = 0 ∨ x = 1 := by omega
  have hs' : s = 0 ∨ s = 1 := by omega
  rcases hx' with rfl | rfl <;> rcases hs' with rfl | rfl
  · rw [if_neg (by rw [h1]; decide), if_neg (by rw [h2]; decide), if_neg (by rw [h3]; decide)]; exact e4
  · rw [if_neg (by rw [h1]; decide), if_pos (by rw [h2])]; exact e2
  · rw [if_neg (by rw [h1]; decide), if_neg (by rw [h2]; decide), if_pos (by rw [h3])]; exact e3
  · rw [if_pos (by rw [h1]; exact ⟨rfl, rfl⟩)]; exact e1
theorem kind_sign : ∀ K : Nat, K < 16 → (if (4096 : Int) * (K : Int) = 40960 then Str.ofString "l" else if (4096 : Int) * (K : Int) = 49152 then Str.ofString "s" else if (4096 : Int) * (K : Int) = 32768 then Str.ofString "-" else
         if (4096 : Int) * (K : Int) = 24576 then Str.ofString "b" else if (4096 : Int) * (K : Int) = 16384 then Str.ofString "d" else if (4096 : Int) * (K : Int) = 8192 then Str.ofString "c" else if (4096 : Int) * (K : Int) = 4096 then Str.ofString "p" else Str.ofString "?") = ⟨#[codeAt 0 (kx K)]⟩ := by
  decide +kernel
theorem three_signs (n : Int) (t s i : Nat) (ht : t < 8) (hs : s < 2) (R W X S XS : Int) (hR : Builtin.bitAnd n R = R ↔ t / 4 = 1) (hW : Builtin.bitAnd n W = W ↔ t / 2 % 2 = 1) (hX : Builtin.bitAnd n X = X ↔ t % 2 = 1) (hS : Builtin.bitAnd n S = S ↔ s = 1) (hXS : Builtin.bitAnd n XS = XS ↔ (t % 2 = 1 ∧ s = 1))
    (y1 y2 y3 : Str) (c : ∀ z, z = Str.ofString "r" → z = ⟨#[codeAt i 1]⟩ ∧ Str.ofString "-" = ⟨#[codeAt i 0]⟩) (c' : Str.ofString "w" = ⟨#[codeAt (i + 1) 1]⟩ ∧ Str.ofString "-" = ⟨#[codeAt (i + 1) 0]⟩)
    (e1 : y1 = ⟨#[codeAt (i + 2) 2]⟩) (e2 : y2 = ⟨#[codeAt (i + 2) 1]⟩) (e3 : y3 = ⟨#[codeAt (i + 2) 3]⟩) (e4 : Str.ofString "-" = ⟨#[codeAt (i + 2) 0]⟩) :
    (if Builtin.bitAnd n R = R then Str.ofString "r" else Str.ofString "-") = ⟨#[codeAt i (fF t s / 8)]⟩ ∧ (if Builtin.bitAnd n W = W then Str.ofString "w" else Str.ofString "-") = ⟨#[codeAt (i + 1) (fF t s / 4 % 2)]⟩ ∧
    (if Builtin.bitAnd n XS = XS then y1 else if Builtin.bitAnd n S = S then y2 else if Builtin.bitAnd n X = X then y3 else Str.ofString "-") = ⟨#[codeAt (i + 2) (fF t s % 4)]⟩ := by
  obtain ⟨_, _, _, a, b, d⟩ := fF_all t ht s hs
  rw [a, b, d]
  exact ⟨one_sign i _ _ _ _ hR (by omega) (c _ rfl).1 (c _ rfl).2, one_sign (i + 1) _ _ _ _ hW (Nat.mod_lt _ (by decide)) c'.1 c'.2, three_sign (i + 2) _ _ _ _ _ _ _ _ _ hXS hS hX (Nat.mod_lt _ (by decide)) hs e1 e2 e3 e4⟩
theorem row_at (N : Nat) (hN : N < 65536) : rowS (N : Int) = rowP (pl (N : Int)) := by
  have hk : Builtin.bitAnd (N : Int) 61440 = 4096 * ((N / 4096 : Nat) : Int) := by rw [and_kind _ (by omega) (by omega)]; rfl
  have s0 : signF (N : Int) 0 = ⟨#[codeAt 0 (kx (N / 4096))]⟩ := by
    simp only [signF]; rw [hk]; exact kind_sign _ (by omega)
  obtain ⟨s1, s2, s3⟩ := three_signs (N : Int) (N / 64 % 8) (N / 2048 % 2) 1 (Nat.mod_lt _ (by decide)) (Nat.mod_lt _ (by decide)) 256 128 64 2048 2112
    ((bit_iff N 8 256 (by decide)).trans (by rw [tb4])) ((bit_iff N 7 128 (by decide)).trans (by rw [tb2])) ((bit_iff N 6 64 (by decide)).trans (by rw [tb1])) (bit_iff N 11 2048 (by decide)) ((two_iff N 6 4 2112 (by decide)).trans (by rw [tb1, Nat.div_div_eq_div_mul, Nat.div_div_eq_div_mul]))
    (Str.ofString "s") (Str.ofString "S") (Str.ofString "x") (fun z e => by subst e; decide +kernel) (by decide +kernel) (by decide +kernel) (by decide +kernel) (by decide +kernel) (by decide +kernel)
  obtain ⟨s4, s5, s6⟩ := three_signs (N : Int) (N / 8 % 8) (N / 1024 % 2) 4 (Nat.mod_lt _ (by decide)) (Nat.mod_lt _ (by decide)) 32 16 8 1024 1032
    ((bit_iff N 5 32 (by decide)).trans (by rw [tb4])) ((bit_iff N 4 16 (by decide)).trans (by rw [tb2])) ((bit_iff N 3 8 (by decide)).trans (by rw [tb1])) (bit_iff N 10 1024 (by decide)) ((two_iff N 3 6 1032 (by decide)).trans (by rw [tb1, Nat.div_div_eq_div_mul, Nat.div_div_eq_div_mul]))
    (Str.ofString "s") (Str.ofString "S") (Str.ofString "x") (fun z e => by subst e; decide +kernel) (by decide +kernel) (by decide +kernel) (by decide +kernel) (by decide +kernel) (by decide +kernel)
  obtain ⟨s7, s8, s9⟩ := three_signs (N : Int) (N % 8) (N / 512 % 2) 7 (Nat.mod_lt _ (by decide)) (Nat.mod_lt _ (by decide)) 4 2 1 512 513
    ((bit_iff N 2 4 (by decide)).trans (by rw [← Nat.div_one N, tb4, Nat.div_one])) ((bit_iff N 1 2 (by decide)).trans (by rw [← Nat.div_one N, tb2, Nat.div_one])) ((bit_iff N 0 1 (by decide)).trans (by rw [tb1, show 2 ^ 0 = 1 from rfl, Nat.div_one])) (bit_iff N 9 512 (by decide)) ((two_iff N 0 8 513 (by decide)).trans (by rw [tb1, show 2 ^ 0 = 1 from rfl, Nat.div_one, Nat.div_div_eq_div_mul]))
    (Str.ofString "t") (Str.ofString "T") (Str.ofString "x") (fun z e => by subst e; decide +kernel) (by decide +kernel) (by decide +kernel) (by decide +kernel) (by decide +kernel) (by decide +kernel)
  have e : signsL (N : Int) 10 = rowL (dM (kx (N / 4096)) (fF (N / 64 % 8) (N / 2048 % 2)) (fF (N / 8 % 8) (N / 1024 % 2)) (fF (N % 8) (N / 512 % 2))) := by
    show [signF (N : Int) 0, signF (N : Int) 1, signF (N : Int) 2, signF (N : Int) 3, signF (N : Int) 4, signF (N : Int) 5, signF (N : Int) 6, signF (N : Int) 7, signF (N : Int) 8, signF (N : Int) 9] = [_, _, _, _, _, _, _, _, _, _]
    rw [s0, show signF (N : Int) 1 = _ from s1, show signF (N : Int) 2 = _ from s2, show signF (N : Int) 3 = _ from s3, show signF (N : Int) 4 = _ from s4, show signF (N : Int) 5 = _ from s5, show signF (N : Int) 6 = _ from s6, show signF (N : Int) 7 = _ from s7, show signF (N : Int) 8 = _ from s8, show signF (N : Int) 9 = _ from s9]
    rfl
  have hf := fun t (ht : t < 8) s (hs : s < 2) => (fF_all t ht s hs).1
  unfold rowS
  rw [e, join10, pl_at N hN]
  exact rowD_row (dM_lt (kx_lt _) (hf _ (Nat.mod_lt _ (by decide)) _ (Nat.mod_lt _ (by decide))) (hf _ (Nat.mod_lt _ (by decide)) _ (Nat.mod_lt _ (by decide))) (hf _ (Nat.mod_lt _ (by decide)) _ (Nat.mod_lt _ (by decide)))) (plD_dM _ _ _ _)
theorem rowS_eq (n : Int) (h0 : 0 ≤ n) (h1 : n < 65536) : rowS n = rowP (pl n) := by
  obtain ⟨N, rfl⟩ := Int.eq_ofNat_of_zero_le h0
  exact row_at N (by omega)
theorem fou_at (p k c : Nat) (e : (2 : Int) ^ (8 - 4 * (k : Int)).toNat = (c : Int)) : fou (p : Int) (k : Int) = ((p / c % 16 : Nat) : Int) := by
  unfold fou
  rw [e, fdiv_pos _ _ (by omega), fmod_pos _ _ (by decide)]
  rfl
theorem spc_int (f : Nat) : (((f : Int).fdiv 2).fmod 2 + (f : Int)).fmod 2 = ((fS f : Nat) : Int) := by
  unfold fS
  rw [fdiv_pos _ _ (by decide), fmod_pos _ _ (by decide), fmod_pos _ _ (by decide)]
  omega
theorem fig_int (f : Nat) : (f : Int).fdiv 4 * 2 + ((f : Int).fdiv 2).fmod 2 = ((fT f : Nat) : Int) := by
  unfold fT
  rw [fdiv_pos _ _ (by decide), fdiv_pos _ _ (by decide), fmod_pos _ _ (by decide)]
  rfl
theorem d16 {x f : Nat} (h : f < 16) : (x * 16 + f) / 16 = x ∧ (x * 16 + f) % 16 = f := by constructor <;> omega
theorem plc_back {k f0 f1 f2 : Nat} (h0 : f0 < 16) (h1 : f1 < 16) (h2 : f2 < 16) : plc k f0 f1 f2 / 256 % 16 = f0 ∧ plc k f0 f1 f2 / 16 % 16 = f1 ∧ plc k f0 f1 f2 / 1 % 16 = f2 ∧ plc k f0 f1 f2 / 4096 = k := by
  unfold plc
  rw [show 4096 = 16 * 16 * 16 from rfl, show 256 = 16 * 16 from rfl, ← Nat.div_div_eq_div_mul, ← Nat.div_div_eq_div_mul, Nat.div_one, (d16 h2).1, (d16 h2).2, (d16 h1).1, (d16 h1).2, (d16 h0).2, ← Nat.div_div_eq_div_mul, (d16 h2).1, (d16 h1).1, (d16 h0).1]
  exact ⟨rfl, rfl, rfl, rfl⟩
theorem lmF_eq (k f0 f1 f2 : Nat) (st : Int) (h0 : f0 < 16) (h1 : f1 < 16) (h2 : f2 < 16) (K : Nat) (hK : [8, st, 6, 2, 4, 10, 1, 12].getD k 0 = (K : Int)) :
    lmF ((plc k f0 f1 f2 : Nat) : Int) st = ((mde K (fS f0) (fS f1) (fS f2) (fT f0) (fT f1) (fT f2) : Nat) : Int) := by
  obtain ⟨e0, e1, e2, e3⟩ := plc_back (k := k) h0 h1 h2
  have g0 := fou_at (plc k f0 f1 f2) 0 256 (by decide)
  have g1 := fou_at (plc k f0 f1 f2) 1 16 (by decide)
  have g2 := fou_at (plc k f0 f1 f2) 2 1 (by decide)
  rw [e0] at g0; rw [e1] at g1; rw [e2] at g2
  have e : (((plc k f0 f1 f2 : Nat) : Int).fdiv 4096).toNat = k := by
    rw [fdiv_pos _ _ (by decide)]; exact e3
  unfold lmF
  rw [e, hK, show ((0 + 1 : Nat) : Int) = ((1 : Nat) : Int) from rfl, show ((0 + 1 + 1 : Nat) : Int) = ((2 : Nat) : Int) from rfl, g0, g1, g2, spc_int, spc_int, spc_int, Int.add_assoc _ ((f0 : Int).fdiv 4 * 2), Int.add_assoc _ ((f1 : Int).fdiv 4 * 2), Int.add_assoc _ ((f2 : Int).fdiv 4 * 2), fig_int, fig_int, fig_int]
  unfold mde
  omega
theorem kind_back : ∀ K : Nat, K < 16 → [8, (K : Int), 6, 2, 4, 10, 1, 12].getD (kx K) 0 = (K : Int) := by decide +kernel
/-- a mode's place and its kind's number give the mode back -/
theorem mode_back (n : Int) (h0 : 0 ≤ n) (h1 : n < 65536) : lmF (pl n : Int) (n.fdiv 4096) = n := by
  obtain ⟨N, rfl⟩ := Int.eq_ofNat_of_zero_le h0
  have hN : N < 65536 := by omega
  have hK : N / 4096 < 16 := by omega
  clear h0 h1
  have hk : (N : Int).fdiv 4096 = ((N / 4096 : Nat) : Int) := by rw [fdiv_pos _ _ (by decide)]; rfl
  obtain ⟨a0, a1, a2, _⟩ := fF_all (N / 64 % 8) (Nat.mod_lt _ (by decide)) (N / 2048 % 2) (Nat.mod_lt _ (by decide))
  obtain ⟨b0, b1, b2, _⟩ := fF_all (N / 8 % 8) (Nat.mod_lt _ (by decide)) (N / 1024 % 2) (Nat.mod_lt _ (by decide))
  obtain ⟨c0, c1, c2, _⟩ := fF_all (N % 8) (Nat.mod_lt _ (by decide)) (N / 512 % 2) (Nat.mod_lt _ (by decide))
  show lmF (pl (N : Int) : Int) ((N : Int).fdiv 4096) = (N : Int)
  rw [hk, pl_at N hN, lmF_eq _ _ _ _ _ a0 b0 c0 (N / 4096) (kind_back _ hK), a1, a2, b1, b2, c1, c2, ← mde_of]
def strangeL : List Int := [0, 3, 5, 7, 9, 11, 13, 14, 15]
theorem kind_of : ∀ st ∈ strangeL, ∀ k : Nat, k < 8 → ∃ K : Nat, K < 16 ∧ [8, st, 6, 2, 4, 10, 1, 12].getD k 0 = (K : Int) ∧ kx K = k := by
  intro st hst k hk
  have h : ∀ st ∈ strangeL, ∀ k : Nat, k < 8 → 0 ≤ [8, st, 6, 2, 4, 10, 1, 12].getD k 0 ∧ [8, st, 6, 2, 4, 10, 1, 12].getD k 0 < 16 ∧ kx ([8, st, 6, 2, 4, 10, 1, 12].getD k 0).toNat = k := by decide +kernel
  obtain ⟨a, b, c⟩ := h st hst k hk
  exact ⟨([8, st, 6, 2, 4, 10, 1, 12].getD k 0).toNat, by omega, by omega, c⟩
theorem mde_lt {K s0 s1 s2 t0 t1 t2 : Nat} (hK : K < 16) (a0 : s0 < 2) (a1 : s1 < 2) (a2 : s2 < 2) (h0 : t0 < 8) (h1 : t1 < 8) (h2 : t2 < 8) : mde K s0 s1 s2 t0 t1 t2 < 65536 := by
  have h := mde_hi (K := K) (s0 := s0) (s1 := s1) (s2 := s2) h0 h1 h2
  omega
theorem parts_mode (p : Nat) (hp : p < 32768) (st : Int) (hst : st ∈ strangeL) : 0 ≤ lmF (p : Int) st ∧ lmF (p : Int) st < 65536 ∧ pl (lmF (p : Int) st) = p := by
  obtain ⟨k, f0, f1, f2, hk, h0, h1, h2, rfl⟩ : ∃ k f0 f1 f2 : Nat, k < 8 ∧ f0 < 16 ∧ f1 < 16 ∧ f2 < 16 ∧ p = plc k f0 f1 f2 :=
    ⟨p / 4096, p / 256 % 16, p / 16 % 16, p % 16, by omega, by omega, by omega, by omega, by unfold plc; omega⟩
  obtain ⟨K, hK, eK, hkx⟩ := kind_of st hst k hk
  obtain ⟨x0, y0, z0⟩ := fT_all f0 h0
  obtain ⟨x1, y1, z1⟩ := fT_all f1 h1
  obtain ⟨x2, y2, z2⟩ := fT_all f2 h2
  have hm := mde_lt hK y0 y1 y2 x0 x1 x2
  rw [lmF_eq k f0 f1 f2 st h0 h1 h2 K eK]
  refine ⟨by omega, by omega, ?_⟩
  obtain ⟨b1, b2, b3, b4, b5, b6, b7⟩ := mde_back (K := K) y0 y1 y2 x0 x1 x2 rfl
  rw [pl_at _ hm, b1, b2, b3, b4, b5, b6, b7, z0, z1, z2, hkx]
theorem mode_row (p : Nat) (hp : p < 32768) (st : Int) (hst : st ∈ strangeL) : rowS (lmF (p : Int) st) = rowP p := by
  obtain ⟨a, b, c⟩ := parts_mode p hp st hst
  rw [rowS_eq _ a b, c]
theorem mode_place (p : Nat) (hp : p < 32768) (st : Int) (hst : st ∈ strangeL) : pbF (lmF (p : Int) st) = (p : Int) := by
  obtain ⟨a, b, c⟩ := parts_mode p hp st hst
  rw [pbF_pl _ a b, c]

theorem code_lt : ∀ i, i < 10 → ∀ a, a < radix i → ∀ b, b < radix i → (codeAt i a < codeAt i b ↔ a < b) ∧ (codeAt i a = codeAt i b ↔ a = b) := by decide
theorem lex_step (i w : Nat) (hi : i < 10) {a b : Nat} (ha : a < radix i) (hb : b < radix i) {V U : Nat} {l l' : List Nat} (hV : V < w) (hU : U < w) (h : l < l' ↔ V < U) : (codeAt i a :: l < codeAt i b :: l') ↔ V + w * a < U + w * b := by
  obtain ⟨h1, h2⟩ := code_lt i hi a ha b hb
  rw [List.cons_lt_cons_iff, h1, h2, h]
  constructor
  · rintro (h | ⟨rfl, h⟩)
    · have := Nat.mul_le_mul_left w (Nat.succ_le_of_lt h)
      rw [Nat.mul_succ] at this
      omega
    · omega
  · intro h
    rcases Nat.lt_trichotomy a b with hab | rfl | hab
    · exact .inl hab
    · exact .inr ⟨rfl, by omega⟩
    · have := Nat.mul_le_mul_left w (Nat.succ_le_of_lt hab)
      rw [Nat.mul_succ] at this
      omega
def tailR (q : Nat) : Nat → Nat → List Nat
  | _, 0 => []
  | i, k + 1 => codeAt i (dgs q i) :: tailR q (i + 1) k
def wtm : Nat → Nat
  | 0 => 32768
  | i + 1 => wt i
theorem wtm_eq : ∀ i, i < 10 → wtm i = wt i * radix i := by decide
theorem tail_lt (p q : Nat) : ∀ k i, i + k = 10 → (tailR q i k < tailR p i k ↔ q % wtm i < p % wtm i)
  | 0, i, h => by
    have : i = 10 := by omega
    subst this
    show ([] : List Nat) < [] ↔ q % 1 < p % 1
    rw [Nat.mod_one, Nat.mod_one]
    exact ⟨fun h => absurd h (by decide), fun h => absurd h (by decide)⟩
  | k + 1, i, h => by
    have hi : i < 10 := by omega
    refine (lex_step i (wt i) hi (dgs_lt q i hi) (dgs_lt p i hi) (Nat.mod_lt q (wt_pos i)) (Nat.mod_lt p (wt_pos i)) (tail_lt p q k (i + 1) (by omega))).trans ?_
    rw [wtm_eq i hi, Nat.mod_mul, Nat.mod_mul]
    rfl
theorem row_lt {p q : Nat} (hp : p < 32768) (hq : q < 32768) : (rowP q).cps.toList < (rowP p).cps.toList ↔ q < p := by
  have h := tail_lt p q 10 0 rfl
  rw [show wtm 0 = 32768 from rfl, Nat.mod_eq_of_lt hp, Nat.mod_eq_of_lt hq] at h
  exact h
theorem row_eq {p q : Nat} (hp : p < 32768) (hq : q < 32768) : (rowP q).cps.toList = (rowP p).cps.toList ↔ q = p := by
  constructor
  · intro h
    rcases Nat.lt_trichotomy q p with h1 | h1 | h1
    · have h2 := (row_lt hp hq).mpr h1
      rw [h] at h2
      exact absurd ((row_lt hp hp).mp h2) (Nat.lt_irrefl _)
    · exact h1
    · have h2 := (row_lt hq hp).mpr h1
      rw [h] at h2
      exact absurd ((row_lt hp hp).mp h2) (Nat.lt_irrefl _)
  · rintro rfl; rfl
end
end Mine
namespace Mine
section
theorem m16 (c : Int) : 0 ≤ c.fmod 65536 ∧ c.fmod 65536 < 65536 := by rw [fmod_pos _ _ (by decide)]; omega
theorem m15 (c : Int) : 0 ≤ c.fmod 32768 ∧ c.fmod 32768 < 32768 := by rw [fmod_pos _ _ (by decide)]; omega
theorem plm (c : Int) : pl (c.fmod 65536) < 32768 := pl_lt _ (m16 c).1 (m16 c).2
theorem nat15 (X : Int) : (X.fmod 32768).toNat < 32768 := by have := m15 X; omega
theorem cast15 (X : Int) : ((X.fmod 32768).toNat : Int) = X.fmod 32768 := by have := m15 X; omega
section
variable (w : World) (mean : ExcName → Option Value) (mg mb : Str → Option Value)
theorem kFM (c : Int) (t : Tok) : Cl w mean mg mb 138 [.int (c.fmod 65536) t] (fun t => .str (rowP (pl (c.fmod 65536))) t) := by
  have h := cFM w mean mg mb (c.fmod 65536) t (m16 c).1 (m16 c).2
  rw [rowS_eq _ (m16 c).1 (m16 c).2] at h
  exact h
theorem kBI (c : Int) (t : Tok) : Cl w mean mg mb 152 [.int (c.fmod 65536) t] (fun t => .int (pl (c.fmod 65536) : Int) t) := by
  have h := cBITS w mean mg mb (c.fmod 65536) t
  rw [pbF_pl _ (m16 c).1 (m16 c).2] at h
  exact h
theorem kLM (c : Int) (t u : Tok) : Cl w mean mg mb 166 [.int (pl (c.fmod 65536) : Int) t, .int ((c.fmod 65536).fdiv 4096) u] (fun t => .int (c.fmod 65536) t) := by
  have h := cLM w mean mg mb (pl (c.fmod 65536) : Int) ((c.fmod 65536).fdiv 4096) t u (by omega) (by have := plm c; omega)
  rw [mode_back _ (m16 c).1 (m16 c).2] at h
  exact h
theorem kSG (c : Int) (t : Tok) : Cl w mean mg mb 159 [.str (rowP (pl (c.fmod 65536))) t] (fun t => .int (pl (c.fmod 65536) : Int) t) := cSGP w mean mg mb _ (plm c) t
theorem kLM3 (X st : Int) (t u : Tok) : Cl w mean mg mb 166 [.int (X.fmod 32768) t, .int st u] (fun t => .int (lmF (X.fmod 32768) st) t) := cLM w mean mg mb _ st t u (m15 X).1 (m15 X).2
theorem kFM3 (X st : Int) (hst : st ∈ strangeL) (t : Tok) : Cl w mean mg mb 138 [.int (lmF (X.fmod 32768) st) t] (fun t => .str (rowP (X.fmod 32768).toNat) t) := by
  obtain ⟨a, b, _⟩ := parts_mode (X.fmod 32768).toNat (nat15 X) st hst
  rw [cast15] at a b
  have h := cFM w mean mg mb (lmF (X.fmod 32768) st) t a b
  have e := mode_row (X.fmod 32768).toNat (nat15 X) st hst
  rw [cast15] at e
  rw [e] at h
  exact h
theorem kBI3 (X st : Int) (hst : st ∈ strangeL) (t : Tok) : Cl w mean mg mb 152 [.int (lmF (X.fmod 32768) st) t] (fun t => .int (X.fmod 32768) t) := by
  have h := cBITS w mean mg mb (lmF (X.fmod 32768) st) t
  have e := mode_place (X.fmod 32768).toNat (nat15 X) st hst
  rw [cast15] at e
  rw [e] at h
  exact h
theorem kSG3 (X : Int) (t : Tok) : Cl w mean mg mb 159 [.str (rowP (X.fmod 32768).toNat) t] (fun t => .int (X.fmod 32768) t) := by
  have h := cSGP w mean mg mb _ (nat15 X) t
  rw [cast15] at h
  exact h
end
section
variable {prog : Program} {w : World} {A : Around} {E : Value → Shared → Prop} {s : Shared} {t u : Tok} {Q : Value → Shared → Prop}
theorem lt_row {p q : Nat} (hq : q < 32768) (hp : p < 32768) (h : Q (.bool (decide ((q : Int) < (p : Int)))) s) : wpAny (model prog w) A (compareOp .Lt (.str (rowP q) t) (.str (rowP p) u)) Q E s := by
  refine P.lt_str ?_
  have e : decide ((rowP q).cps.toList < (rowP p).cps.toList) = decide ((q : Int) < (p : Int)) := by
    rw [decide_eq_decide, row_lt hp hq]; omega
  rw [e]
  exact h
theorem eq_row {p q : Nat} (hq : q < 32768) (hp : p < 32768) (h : Q (.bool ((q : Int) == (p : Int))) s) : wpAny (model prog w) A (compareOp .Eq (.str (rowP q) t) (.str (rowP p) u)) Q E s := by
  refine P.eq_str ?_
  have e : ((rowP q).cps.toList == (rowP p).cps.toList) = ((q : Int) == (p : Int)) := by
    rw [Bool.eq_iff_iff, beq_iff_eq, beq_iff_eq, row_eq hp hq]; omega
  rw [e]
  exact h
theorem ne_row {p q : Nat} (e : p = q) (h : Q (.bool false) s) : wpAny (model prog w) A (compareOp .NotEq (.str (rowP p) t) (.str (rowP q) u)) Q E s := by
  subst e
  refine P.ne_str ?_
  have e : ((rowP p).cps.toList != (rowP p).cps.toList) = false := by simp
  rw [e]
  exact h
theorem ne_int_same {a : Int} (h : Q (.bool false) s) : wpAny (model prog w) A (compareOp .NotEq (.int a t) (.int a u)) Q E s := by
  refine PySem.P.ne_int ?_
  have e : (a != a) = false := by simp
  rw [e]
  exact h
end
end
end Mine
namespace Mine
section
theorem dirtyPN {m f : Str → Option Value} {a b : Str} (hm : ∀ y, y ≠ a → y ≠ b → m y = f y) : m = fun y => if y = a then m y else if y = b then m y else f y := dirty2 hm
def MJ (l sc : Addr) (_i : Nat) (m : Str → Option Value) (news : List (Addr × Obj)) : Prop :=
  (∃ u : Str → Option Value, m = fun y => if y = Str.ofString "place" then u y else if y = Str.ofString "number" then u y else if y = Str.ofString "cells" then some (.ref l) else if y = Str.ofString "script" then some (.ref sc) else none) ∧
  ∃ (c0 c1 c2 c3 c4 c5 c6 c7 : Int) (t0 t1 t2 t3 t4 t5 t6 t7 : Tok) (c : Nat), (l, W.listOf #[.int c0 t0, .int c1 t1, .int c2 t2, .int c3 t3, .int c4 t4, .int c5 t5, .int c6 t6, .int c7 t7] c) ∈ news
theorem MJ.start {h : Heap} {l sc : Addr} {vs : Array Value} {c0 c1 c2 c3 c4 c5 c6 c7 : Int} {t0 t1 t2 t3 t4 t5 t6 t7 : Tok} {c : Nat} (_ : h.IsList sc vs) :
    MJ l sc 0 (fun y => if y = Str.ofString "cells" then some (.ref l) else List.lookup y [(Str.ofString "script", Value.ref sc)].reverse) [(l, W.listOf #[.int c0 t0, .int c1 t1, .int c2 t2, .int c3 t3, .int c4 t4, .int c5 t5, .int c6 t6, .int c7 t7] c)] :=
  ⟨⟨_, dirty2 (fun y h1 h2 => by rw [lookup1'])⟩, c0, c1, c2, c3, c4, c5, c6, c7, t0, t1, t2, t3, t4, t5, t6, t7, c, List.Mem.head _⟩
theorem enum_ints {vs : List Value} {ns : List Int} {i : Nat} {a : Itm} (hI : IntsAre vs ns) (ha : (enumItems 0 vs)[i]? = some a) : ∃ (n : Int) (t : Tok), a = .pair (fun t => .int (i : Int) t) (.int n t) := by
  have hlt : i < vs.length := by
    rcases Nat.lt_or_ge i vs.length with h | h
    · exact h
    · rw [List.getElem?_eq_none (by rw [enumItems_length]; exact h)] at ha; cases ha
  have h1 := enumItems_get vs 0 i (List.getElem?_eq_getElem hlt)
  rw [h1] at ha
  have h2 : ∀ {vs : List Value} {ns : List Int}, IntsAre vs ns → ∀ v ∈ vs, ∃ (n : Int) (t : Tok), v = .int n t := by
    intro vs ns h
    induction h with
    | nil => intro v hv; cases hv
    | cons n t h ih =>
      intro v hv
      rcases List.mem_cons.mp hv with rfl | hv
      · exact ⟨_, _, rfl⟩
      · exact ih v hv
  obtain ⟨n, t, e⟩ := h2 hI _ (List.getElem_mem hlt)
  refine ⟨n, t, ?_⟩
  have h3 := Option.some.inj ha
  rw [← h3, e, Nat.zero_add]
theorem news_keepM {h₀ h : Heap} {L : Addr} {p1 p2 q : Addr × Obj} {news : List (Addr × Obj)} (N : News h₀ L h ([p1, p2] ++ news)) (hm : q ∈ news) : News h₀ L h [p1, p2, q] := by
  intro p hp
  simp only [List.mem_cons, List.not_mem_nil, or_false] at hp
  rcases hp with rfl | rfl | rfl
  · exact N _ (List.mem_append_left _ (List.Mem.head _))
  · exact N _ (List.mem_append_left _ (List.Mem.tail _ (List.Mem.head _)))
  · exact N _ (List.mem_append_right _ hm)
theorem news_keepD {h₀ h : Heap} {L : Addr} {q : Addr × Obj} {news : List (Addr × Obj)} (N : News h₀ L h news) (hm : q ∈ news) : News h₀ L h [q] := fun p hp => by
  rw [List.mem_singleton.mp hp]
  exact N _ hm
theorem MJ.of {l sc : Addr} {i : Nat} {m : Str → Option Value} {news : List (Addr × Obj)} {c0 c1 c2 c3 c4 c5 c6 c7 : Int} {t0 t1 t2 t3 t4 t5 t6 t7 : Tok} {c : Nat}
    (hm : ∀ y, y ≠ Str.ofString "place" → y ≠ Str.ofString "number" → m y = if y = Str.ofString "cells" then some (.ref l) else if y = Str.ofString "script" then some (.ref sc) else none)
    (h : (l, W.listOf #[.int c0 t0, .int c1 t1, .int c2 t2, .int c3 t3, .int c4 t4, .int c5 t5, .int c6 t6, .int c7 t7] c) ∈ news) : MJ l sc i m news :=
  ⟨⟨_, dirty2 hm⟩, c0, c1, c2, c3, c4, c5, c6, c7, t0, t1, t2, t3, t4, t5, t6, t7, c, h⟩
theorem ne_bool_eq {prog : Program} {w : World} {A : Around} {E : Value → Shared → Prop} {s : Shared} {Q : Value → Shared → Prop} {a b : Bool} (e : a = b) (h : Q (.bool false) s) : wpAny (model prog w) A (compareOp .NotEq (.bool a) (.bool b)) Q E s := by
  subst e
  refine PyProof.Rows.ne_bool ?_
  have e : (a != a) = false := by simp
  rw [e]
  exact h
theorem strange_mem (c : Int) : [(0 : Int), 3, 5, 7, 9, 11, 13, 14, 15].getD (c.fmod 9).toNat 0 ∈ strangeL := by
  have h : ∀ j, j < 9 → [(0 : Int), 3, 5, 7, 9, 11, 13, 14, 15].getD j 0 ∈ strangeL := by decide
  refine h _ ?_
  rw [fmod_pos _ _ (by decide)]
  omega
theorem next_nat {x y : Int} (e : y = x + 1) : (y.fmod 32768).toNat = ((x.fmod 32768).toNat + 1) % 32768 := by
  subst e
  rw [fmod_pos _ _ (by decide), fmod_pos _ _ (by decide)]
  omega
theorem next_lt {x y : Int} (e : y = x + 1) : decide (((x.fmod 32768).toNat : Int) < ((y.fmod 32768).toNat : Int)) = decide (0 < y.fmod 32768) := by
  subst e
  rw [decide_eq_decide, fmod_pos _ _ (by decide), fmod_pos _ _ (by decide)]
  omega
theorem kFO3 (w : World) (mean : ExcName → Option Value) (mg mb : Str → Option Value) (X : Int) (t : Tok) : Cl w mean mg mb 173 [.str (rowP (X.fmod 32768).toNat) t] (fun t => .str (rowP (((X.fmod 32768).toNat + 1) % 32768)) t) := by
  have h := cFO w mean mg mb (dgs (X.fmod 32768).toNat) (dgs_lt _) t
  rw [plD_dgs (nat15 X)] at h
  exact h
/-- between the eight steps -/
def LJ (i : Nat) (m : Str → Option Value) (_ : List (Addr × Obj)) : Prop :=
  ∃ (S st : Int) (ts tst tb : Tok) (b : Str) (u : Str → Option Value), st ∈ strangeL ∧ (∀ j : Nat, i = j + 1 → b = rowP ((S + (j : Int)).fmod 32768).toNat) ∧
    m = fun y => if y = Str.ofString "before" then some (.str b tb) else if y = Str.ofString "start" then some (.int S ts) else if y = Str.ofString "strange" then some (.int st tst) else u y
theorem LJ.of {i : Nat} {m : Str → Option Value} {news : List (Addr × Obj)} {S st : Int} {ts tst tb : Tok} {b : Str} (h1 : m (Str.ofString "before") = some (.str b tb)) (h2 : m (Str.ofString "start") = some (.int S ts)) (h3 : m (Str.ofString "strange") = some (.int st tst))
    (hst : st ∈ strangeL) (hb : ∀ j : Nat, i = j + 1 → b = rowP ((S + (j : Int)).fmod 32768).toNat) : LJ i m news := by
  refine ⟨S, st, ts, tst, tb, b, m, hst, hb, ?_⟩
  funext y
  by_cases e1 : y = Str.ofString "before"
  · rw [if_pos e1, e1, h1]
  by_cases e2 : y = Str.ofString "start"
  · rw [if_neg e1, if_pos e2, e2, h2]
  by_cases e3 : y = Str.ofString "strange"
  · rw [if_neg e1, if_neg e2, if_pos e3, e3, h3]
  rw [if_neg e1, if_neg e2, if_neg e3]
def Blk (P : Prop) : Prop := P
theorem blk {P : Prop} (h : Blk P) : P := h
def tupO (c : Int) (t t' : Tok) : Obj := { cls := .type "tuple", data := .seq #[.int (pl (c.fmod 65536) : Int) t, .str (rowP (pl (c.fmod 65536))) t'] }
def TL (cf : Nat → Int) : Nat → List (Addr × Tok × Tok) → List (Addr × Obj)
  | _, [] => []
  | j, p :: r => (p.1, tupO (cf j) p.2.1 p.2.2) :: TL cf (j + 1) r
theorem TL_at {cf : Nat → Int} : ∀ {Ts : List (Addr × Tok × Tok)} {j i : Nat} {p : Addr × Tok × Tok}, Ts[i]? = some p → (p.1, tupO (cf (j + i)) p.2.1 p.2.2) ∈ TL cf j Ts
  | [], _, _, _, h => by cases h
  | _ :: _, _, 0, _, h => by cases h; exact List.Mem.head _
  | _ :: r, j, i + 1, p, h => by
    have h' := TL_at (cf := cf) (j := j + 1) (i := i) (p := p) (Ts := r) h
    rw [Nat.add_assoc, Nat.add_comm 1] at h'
    exact List.Mem.tail _ h'
theorem TL_snoc {cf : Nat → Int} (p : Addr × Tok × Tok) : ∀ (Ts : List (Addr × Tok × Tok)) (j : Nat), TL cf j (Ts ++ [p]) = TL cf j Ts ++ [(p.1, tupO (cf (j + Ts.length)) p.2.1 p.2.2)]
  | [], _ => rfl
  | _ :: r, j => by
    show _ :: TL cf (j + 1) (r ++ [p]) = _ :: (TL cf (j + 1) r ++ _)
    rw [TL_snoc p r (j + 1), List.length_cons, Nat.add_assoc, Nat.add_comm 1]
theorem TL_lt {cf : Nat → Int} {ls : Addr} : ∀ {Ts : List (Addr × Tok × Tok)} {j : Nat}, (∀ p ∈ Ts, @LT.lt Nat _ ls p.1) → ∀ q ∈ TL cf j Ts, @LT.lt Nat _ ls q.1 ∧ q.2.cls = .type "tuple"
  | [], _, _, q, hq => by cases hq
  | p :: r, j, h, q, hq => by
    rcases List.mem_cons.mp hq with rfl | hq
    · exact ⟨h p (List.Mem.head _), rfl⟩
    · exact TL_lt (fun p hp => h p (List.Mem.tail _ hp)) q hq
theorem subL_of : ∀ {l all : List (Addr × Obj)}, (∀ p ∈ l, p ∈ all) → SubL l all
  | [], _, _ => trivial
  | p :: _, _, h => ⟨h p (List.Mem.head _), subL_of fun q hq => h q (List.Mem.tail _ hq)⟩
theorem offW1_of {p : Addr × Obj} : ∀ {its : List (Addr × Obj)}, (∀ q ∈ its, p.1 ≠ q.1 ∨ p.2.cls ≠ q.2.cls) → OffW1 p its
  | [], _ => trivial
  | q :: _, h => ⟨h q (List.Mem.head _), offW1_of fun r hr => h r (List.Mem.tail _ hr)⟩
theorem offW_of {its : List (Addr × Obj)} : ∀ {l : List (Addr × Obj)}, (∀ p ∈ l, ∀ q ∈ its, p.1 ≠ q.1 ∨ p.2.cls ≠ q.2.cls) → OffW its l
  | [], _ => trivial
  | p :: _, h => ⟨offW1_of (h p (List.Mem.head _)), offW_of fun q hq => h q (List.Mem.tail _ hq)⟩
theorem news_name {h₀ h : Heap} {L : Addr} {ps : List (Addr × Obj)} (N : News h₀ L h ps) : ∃ qs, qs = ps ∧ News h₀ L h qs := ⟨_, rfl, N⟩
/-- between the turns over the modes seen -/
def J3 (ps : List (Addr × Obj)) (m0 : Str → Option Value) (_ : Nat) (m : Str → Option Value) (news : List (Addr × Obj)) : Prop :=
  (∃ u : Str → Option Value, m = fun y => if y = Str.ofString "other_place" then u y else if y = Str.ofString "other_row" then u y else m0 y) ∧ ∀ p ∈ ps, p ∈ news
/-- between the five modes -/
def J2 (ls lc : Addr) (cO : Obj) (cf : Nat → Int) (i : Nat) (m : Str → Option Value) (news : List (Addr × Obj)) : Prop :=
  ∃ (Ts : List (Addr × Tok × Tok)) (k : Nat) (st : Int) (tst : Tok) (u : Str → Option Value), st ∈ strangeL ∧ Ts.length = i ∧ (ls, W.listOf (Ts.map fun p => Value.ref p.1).toArray k) ∈ news ∧ (lc, cO) ∈ news ∧ (∀ p ∈ TL cf 0 Ts, p ∈ news) ∧ (∀ p ∈ Ts, @LT.lt Nat _ ls p.1) ∧
    m = fun y => if y = Str.ofString "seen" then some (.ref ls) else if y = Str.ofString "strange" then some (.int st tst) else if y = Str.ofString "cells" then some (.ref lc) else u y
theorem frame3 {m : Str → Option Value} {a b c : Str} {x y z : Value} (h1 : m a = some x) (h2 : m b = some y) (h3 : m c = some z) : m = fun v => if v = a then some x else if v = b then some y else if v = c then some z else m v := by
  funext v
  by_cases e1 : v = a
  · rw [if_pos e1, e1, h1]
  by_cases e2 : v = b
  · rw [if_neg e1, if_pos e2, e2, h2]
  by_cases e3 : v = c
  · rw [if_neg e1, if_neg e2, if_pos e3, e3, h3]
  rw [if_neg e1, if_neg e2, if_neg e3]
theorem len_succ {α : Type} {l : List α} {n : Nat} (h : l.length = n + 1) : ∃ a r, l = a :: r ∧ r.length = n := by
  cases l with
  | nil => cases h
  | cons a r => exact ⟨a, r, rfl, by simpa using h⟩
theorem news_cons {h₀ h : Heap} {L : Addr} {p : Addr × Obj} {news : List (Addr × Obj)} (hp : h.get? p.1 = some p.2 ∧ p.1 ≠ L ∧ h₀.get? p.1 = none) (N : News h₀ L h news) : News h₀ L h (p :: news) := fun q hq => by
  rcases List.mem_cons.mp hq with rfl | hq
  · exact hp
  · exact N q hq
local macro_rules | `(tactic| walk_at "pyIter ref") => `(tactic| (k_here; (with_reducible show wpAny _ _ (pyIter (Value.ref _)) (fun it s₂ => TurnsAt _ _ _ _ _ _ _ _ _ it s₂) _ _); refine blk ?_))
theorem endJ2 {h₀ h' : Heap} {L : Addr} {s₁ : Shared} {tk : Nat} {m' : Str → Option Value} {I D ls lc T : Addr} {o1 oD cO : Obj} {Ts : List (Addr × Tok × Tok)} {k' i : Nat} {cf : Nat → Int} {cc st : Int} {tp tr tst : Tok}
    (F : Fr h₀ L h' m') (N : News h₀ L h' ((T, tupO cc tp tr) :: (I, o1) :: (D, oD) :: (ls, W.listOf ((Ts.map fun p => Value.ref p.1).toArray.push (.ref T)) k') :: (lc, cO) :: TL cf 0 Ts))
    (hc1 : o1.cls = .type "list_iterator") (hoD : oD.cls = .type "list") (hcO : cO.cls = .type "list") (hcc : cc = cf i) (hlen : Ts.length = i) (hls : @LT.lt Nat _ ls T) (hTl : ∀ p ∈ Ts, @LT.lt Nat _ ls p.1) (hst : st ∈ strangeL)
    (h1 : m' (Str.ofString "seen") = some (.ref ls)) (h2 : m' (Str.ofString "strange") = some (.int st tst)) (h3 : m' (Str.ofString "cells") = some (.ref lc)) :
    UnrEndW h₀ L s₁ [(I, o1)] (fun m' n' => SubL [(D, oD)] n' ∧ J2 ls lc cO cf (i + 1) m' n') { s₁ with heap := h', toks := tk } := by
  subst hcc
  have hTL := TL_lt (cf := cf) (j := 0) hTl
  have n1 : Value.type "tuple" ≠ Value.type "list_iterator" := by
    intro h; injection h with h; exact absurd h (by decide)
  have n2 : Value.type "list" ≠ Value.type "list_iterator" := by
    intro h; injection h with h; exact absurd h (by decide)
  have e : (Ts.map fun p => Value.ref p.1).toArray.push (.ref T) = ((Ts ++ [(T, tp, tr)]).map fun p => Value.ref p.1).toArray := by simp
  refine UnrEndW.intro F N ((T, tupO (cf i) tp tr) :: (D, oD) :: (ls, W.listOf ((Ts.map fun p => Value.ref p.1).toArray.push (.ref T)) k') :: (lc, cO) :: TL cf 0 Ts) ⟨List.Mem.tail _ (List.Mem.head _), trivial⟩ (subL_of ?_) (offW_of ?_)
    ⟨⟨List.Mem.tail _ (List.Mem.head _), trivial⟩, Ts ++ [(T, tp, tr)], k', st, tst, m', hst, by simp [hlen], ?_, List.Mem.tail _ (List.Mem.tail _ (List.Mem.tail _ (List.Mem.head _))), ?_, ?_, frame3 h1 h2 h3⟩
  · intro p hp
    rcases List.mem_cons.mp hp with rfl | hp
    · exact List.Mem.head _
    · exact List.Mem.tail _ (List.Mem.tail _ hp)
  · intro p hp q hq
    rw [List.mem_singleton.mp hq]
    refine .inr ?_
    show p.2.cls ≠ o1.cls
    rw [hc1]
    rcases List.mem_cons.mp hp with rfl | hp
    · exact n1
    rcases List.mem_cons.mp hp with rfl | hp
    · rw [hoD]; exact n2
    rcases List.mem_cons.mp hp with rfl | hp
    · exact n2
    rcases List.mem_cons.mp hp with rfl | hp
    · rw [hcO]; exact n2
    · rw [(hTL p hp).2]; exact n1
  · rw [← e]
    exact List.Mem.tail _ (List.Mem.tail _ (List.Mem.head _))
  · rw [TL_snoc, Nat.zero_add, hlen]
    intro p hp
    rcases List.mem_append.mp hp with hp | hp
    · exact List.Mem.tail _ (List.Mem.tail _ (List.Mem.tail _ (List.Mem.tail _ hp)))
    · rw [List.mem_singleton.mp hp]; exact List.Mem.head _
  · intro p hp
    rcases List.mem_append.mp hp with hp | hp
    · exact hTl p hp
    · rw [List.mem_singleton.mp hp]; exact hls
theorem mainT : PySem.Challenge.rw_sh0089_01.Holds := hd (by
  k_with_none
  k_with "storeName" => (k_here; k_dflt (first
    | (refine' stI (by k_asm) (by k_asm) ?_ (by rfl) (by rfl); k_whole; intro t' tk' h' mk F' N'; (try k_sweep))
    | (refine' stV (by k_asm) (by k_asm) ?_ (by rfl) (by rfl); k_whole; intro tk' h' mk F' N'; (try k_sweep))))
  k_with "exec For Tuple Call cons nil" => (k_here; (rename Fr _ _ _ _ => lF'); (with_unfolding_all refine' For_turns lF' ?_; k_whole))
  k_with "call type:enumerate" => (k_here; (with_reducible show wpAny _ _ (call (Value.type _) [Value.ref _]) (fun xv s₁ => wpAny _ _ (pyIter xv) (fun it s₂ => TurnsAt _ _ _ _ _ _ _ _ _ it s₂) _ s₁) _ _); (rename Fr _ _ _ _ => lF'); (rename News _ _ _ _ => lN'); (with_unfolding_all refine enumListK (by rfl) lF' lN' (by assumption) ?_); intro i' l1; (try k_lt l1))
  k_with "exec For Name Subscript cons nil" => (k_here; (rename Fr _ _ _ _ => lF'); (with_unfolding_all refine' For_turns lF' ?_; k_whole))
  k_with "call ref" => (k_here; (with_reducible show wpAny _ _ (call (Value.ref _) _) _ _ _); k_dflt (first | (with_reducible refine' Cl.news (kFM _ _ _ _ _ _) (by k_dflt (k_asm)) (by k_dflt (k_asm)) (by k_dflt (k_asm)) (by k_dflt (k_asm)) (by exact rfl) (by k_dflt (k_asm)) ?_) | (with_reducible refine' Cl.news (kBI _ _ _ _ _ _) (by k_dflt (k_asm)) (by k_dflt (k_asm)) (by k_dflt (k_asm)) (by k_dflt (k_asm)) (by exact rfl) (by k_dflt (k_asm)) ?_) | (with_reducible refine' Cl.news (kLM _ _ _ _ _ _ _) (by k_dflt (k_asm)) (by k_dflt (k_asm)) (by k_dflt (k_asm)) (by k_dflt (k_asm)) (by exact rfl) (by k_dflt (k_asm)) ?_) | (with_reducible refine' Cl.news (kSG _ _ _ _ _ _) (by k_dflt (k_asm)) (by k_dflt (k_asm)) (by k_dflt (k_asm)) (by k_dflt (k_asm)) (by exact rfl) (by k_dflt (k_asm)) ?_) | (with_reducible refine' Cl.news (kIF _ _ _ _ _ _) (by k_dflt (k_asm)) (by k_dflt (k_asm)) (by k_dflt (k_asm)) (by k_dflt (k_asm)) (by exact rfl) (by k_dflt (k_asm)) ?_) | (with_reducible refine' Cl.news (kIM _ _ _ _ _ _) (by k_dflt (k_asm)) (by k_dflt (k_asm)) (by k_dflt (k_asm)) (by k_dflt (k_asm)) (by exact rfl) (by k_dflt (k_asm)) ?_) | (with_reducible refine' Cl.news (kLM3 _ _ _ _ _ _ _ _) (by k_dflt (k_asm)) (by k_dflt (k_asm)) (by k_dflt (k_asm)) (by k_dflt (k_asm)) (by exact rfl) (by k_dflt (k_asm)) ?_) | (with_reducible refine' Cl.news (kFM3 _ _ _ _ _ _ (by assumption) _) (by k_dflt (k_asm)) (by k_dflt (k_asm)) (by k_dflt (k_asm)) (by k_dflt (k_asm)) (by exact rfl) (by k_dflt (k_asm)) ?_) | (with_reducible refine' Cl.news (kBI3 _ _ _ _ _ _ (by assumption) _) (by k_dflt (k_asm)) (by k_dflt (k_asm)) (by k_dflt (k_asm)) (by k_dflt (k_asm)) (by exact rfl) (by k_dflt (k_asm)) ?_) | (with_reducible refine' Cl.news (kSG3 _ _ _ _ _ _) (by k_dflt (k_asm)) (by k_dflt (k_asm)) (by k_dflt (k_asm)) (by k_dflt (k_asm)) (by exact rfl) (by k_dflt (k_asm)) ?_) | (with_reducible refine' Cl.news (kFO3 _ _ _ _ _ _) (by k_dflt (k_asm)) (by k_dflt (k_asm)) (by k_dflt (k_asm)) (by k_dflt (k_asm)) (by exact rfl) (by k_dflt (k_asm)) ?_)); intro t' h' tk' F' N'; (try dsimp only); (try k_sweep))
  k_with "compareOp Lt str str" => (k_here; (first | with_reducible refine lt_row (plm _) (plm _) ?_ | with_reducible refine lt_row (nat15 _) (nat15 _) ?_))
  k_with "compareOp Eq str str" => (k_here; with_reducible refine eq_row (plm _) (plm _) ?_)
  k_with "compareOp NotEq int int" => (k_here; with_reducible refine ne_int_same ?_)
  k_with "compareOp NotEq bool bool" => (k_here; (first | with_reducible refine ne_bool_eq rfl ?_ | with_reducible refine ne_bool_eq (next_lt (by omega)) ?_))
  k_with "compareOp NotEq str str" => (k_here; with_reducible refine ne_row (next_nat (by omega)) ?_)
  k_with "exec For Tuple Name cons nil" => (k_here; (rename Fr _ _ _ _ => lF'); (with_unfolding_all refine' For_turns lF' ?_; k_whole))
  k_with "call builtin:list.append" => (k_here; (with_reducible show wpAny _ _ (call (Value.builtin _) [Value.ref _, _]) _ _ _); k_dflt (refine' append_K (by k_asm) (by k_asm) (by (repeat' (first | exact Upd.head (by (repeat' (first | exact hne | exact List.forall_mem_nil _ | refine List.forall_mem_cons.mpr ⟨by k_ne, ?_⟩))) | refine' Upd.tail (by k_ne) ?_))) ?_ (by simp only [List.size_toArray, List.length_map, sizeLine_eq]; omega); k_whole); intro h' F' N'; (try k_sweep))
  k_with "exec For Name Call cons nil" => (k_here; (rename Fr _ _ _ _ => lF'); (with_unfolding_all refine' For_turns lF' ?_; k_whole))
  k_go0; (all_goals try k_fold); repeat' (first | (k_unfold; (try dsimp only)) | (k_end; wrow_close) | ((with_reducible show wpAny _ _ (execs _ _) _ _ _); k_fold) | walk1 | (dsimp only; walk1) | (leave1; walk_say "STEP leave1"; try dsimp only) | fail "no step")
  rename (Fr _ _ _ _) => lF
  rename (News _ _ _ _) => lN
  rename (IntsAre _ _) => hI
  rename (Heap.IsList _ _ _) => hL
  refine itemsRest_inv (MJ _ _) ?step ?done (enumItems 0 _).length 0 _ _ (Nat.zero_add _) trivial (MJ.start hL)
  case step =>
    intro i a m1 news1 ha hJ _ v h tk hv F2
    obtain ⟨⟨u, rfl⟩, c0, c1, c2, c3, c4, c5, c6, c7, t0, t1, t2, t3, t4, t5, t6, t7, c, hmem⟩ := hJ
    obtain ⟨n, tn, rfl⟩ := enum_ints hI ha
    clear ha
    obtain ⟨T, tt, rfl, hT'⟩ := hv
    refine AllObj.cons fun o1 hc1 => AllObj.cons fun o2 hc2 => AllObj.nil fun N3 => ?_
    have N4 := news_keepM N3 hmem
    clear N3 hmem lF lN
    try dsimp only at hc1 hc2 hT'
    (try k_fold)
    repeat' (first | (k_unfold; (try dsimp only)) | (k_end; wrow_close) | ((with_reducible show wpAny _ _ (execs _ _) _ _ _); k_fold) | walk1 | (dsimp only; walk1) | (leave1; walk_say "STEP leave1"; try dsimp only) | fail "no step")
    refine MJ.of (fun y h1 h2 => by simp +zetaDelta only [h1, h2, if_false]) (by k_mem)
  case done =>
    clear lF lN
    intro m1 news1 hJ h tk F3 N3
    obtain ⟨⟨u, rfl⟩, c0, c1, c2, c3, c4, c5, c6, c7, t0, t1, t2, t3, t4, t5, t6, t7, c, hmem⟩ := hJ
    have N4 := news_keepD N3 hmem
    clear N3 hmem
    (try k_fold)
    repeat' (first | (k_unfold; (try dsimp only)) | (k_end; wrow_close) | ((with_reducible show wpAny _ _ (execs _ _) _ _ _); k_fold) | walk1 | (dsimp only; walk1) | (leave1; walk_say "STEP leave1"; try dsimp only) | fail "no step")
    rename Fr _ _ _ _ => lF'
    rename News _ _ _ _ => lN'
    unfold Blk
    refine iter_listTurns (by rfl) lF' lN' (List.Mem.head _) (by rfl) (by rfl) ?_
    intro I hI
    k_lt hI
    obtain ⟨cf, hcf⟩ : ∃ cf : Nat → Int, cf = fun j => [c0, c1, c2, c3, c4].getD j 0 := ⟨_, rfl⟩
    refine itemsRest_inv (J2 _ _ _ cf) ?st2 ?dn2 5 0 _ _ rfl ⟨List.Mem.head _, trivial⟩ ⟨[], 0, _, _, _, strange_mem _, rfl, List.Mem.tail _ (List.Mem.head _), List.Mem.tail _ (List.Mem.tail _ (List.Mem.tail _ (List.Mem.head _))), (fun p hp => by cases hp), (fun p hp => by cases hp), frame3 (by with_unfolding_all rfl) (by with_unfolding_all rfl) (by with_unfolding_all rfl)⟩
    case dn2 =>
      clear lF' lN'
      intro m1 news1 hJ h tk F3 N3
      obtain ⟨Ts, k, st, tst, u, hst, hlen, hm1, hm2, hTs, hTl, rfl⟩ := hJ
      have N4 := news_keepD N3 hm2
      clear N3 hm1 hm2 hTs hTl hlen Ts
      (try k_fold)
      repeat' (first | (k_unfold; (try dsimp only)) | (k_end; wrow_close) | ((with_reducible show wpAny _ _ (execs _ _) _ _ _); k_fold) | walk1 | (dsimp only; walk1) | (leave1; walk_say "STEP leave1"; try dsimp only) | fail "no step")
      rename Fr _ _ _ _ => lF'
      rename News _ _ _ _ => lN'
      rename IsRange _ _ _ _ _ _ _ _ => hr'
      unfold Blk
      refine iter_rangeK (n := 8) (by rfl) hr' (by decide) (by rfl) lF' lN' ?_
      intro I hI
      refine itemsRest_inv LJ ?st3 ?dn3 8 0 _ _ rfl trivial ?in3
      case in3 => exact LJ.of (by with_unfolding_all rfl) (by with_unfolding_all rfl) (by with_unfolding_all rfl) hst (fun j h => absurd h (by omega))
      case dn3 =>
        clear lF' lN' hr'
        intro m1 news1 hJ h tk F3 N3
        obtain ⟨S, st, ts, tst, tb, b, u, hst, hb, rfl⟩ := hJ
        (try k_fold)
        repeat' (first | (k_unfold; (try dsimp only)) | (k_end; wrow_close) | ((with_reducible show wpAny _ _ (execs _ _) _ _ _); k_fold) | walk1 | (dsimp only; walk1) | (leave1; walk_say "STEP leave1"; try dsimp only) | fail "no step")
      case st3 =>
        clear lF' lN' hr'
        intro i a m1 news1 ha hJ _ v h tk hv F2
        obtain ⟨S, st, ts, tst, tb, b, u, hst, hb, rfl⟩ := hJ
        have hi : i < 8 := by
          rcases Nat.lt_or_ge i 8 with h | h
          · exact h
          · rw [List.getElem?_eq_none (by exact h)] at ha; cases ha
        replace ha := (rangeItems_get hi).symm.trans ha
        have ha' := Option.some.inj ha
        subst ha'
        clear ha
        cases i with
        | zero =>
          replace hv : ∃ t : Tok, v = .int 0 t := hv
          obtain ⟨tt, rfl⟩ := hv
          refine AllObj.cons fun o1 hc1 => AllObj.nil fun N3 => ?_
          have N4 : News _ _ h [(I, o1)] := fun p hp => N3 p (List.mem_append_left _ hp)
          clear N3 hb
          try dsimp only at hc1
          (try k_fold)
          repeat' (first | (k_unfold; (try dsimp only)) | (k_end; wrow_close) | ((with_reducible show wpAny _ _ (execs _ _) _ _ _); k_fold) | walk1 | (dsimp only; walk1) | (leave1; walk_say "STEP leave1"; try dsimp only) | fail "no step")
          all_goals (
            refine LJ.of (by with_unfolding_all rfl) (by with_unfolding_all rfl) (by with_unfolding_all rfl) hst (fun j' h' => ?_)
            have e' : j' = 0 := by omega
            subst e'
            rfl)
        | succ j =>
          have hb' := hb j rfl
          subst hb'
          clear hb
          obtain ⟨kk, hkk⟩ : ∃ kk : Int, kk = ((j + 1 : Nat) : Int) := ⟨_, rfl⟩
          replace hv : ∃ t : Tok, v = .int ((j + 1 : Nat) : Int) t := hv
          rw [← hkk] at hv
          obtain ⟨tt, rfl⟩ := hv
          have hk0 : 0 < kk := by omega
          refine AllObj.cons fun o1 hc1 => AllObj.nil fun N3 => ?_
          have N4 : News _ _ h [(I, o1)] := fun p hp => N3 p (List.mem_append_left _ hp)
          clear N3
          try dsimp only at hc1
          (try k_fold)
          repeat' (first | (k_unfold; (try dsimp only)) | (k_end; wrow_close) | ((with_reducible show wpAny _ _ (execs _ _) _ _ _); k_fold) | walk1 | (dsimp only; walk1) | (leave1; walk_say "STEP leave1"; try dsimp only) | fail "no step")
          all_goals (
            refine LJ.of (by with_unfolding_all rfl) (by with_unfolding_all rfl) (by with_unfolding_all rfl) hst (fun j' h' => ?_)
            have e' : j' = j + 1 := by omega
            subst e'
            rw [hkk])
    case st2 =>
      clear lF' lN'
      intro i a m1 news1 ha hJ hsub v h tk hv F2
      obtain ⟨Ts, k, st, tst, u, hst, hlen, hm1, hm2, hTs, hTl, rfl⟩ := hJ
      have hi : i < 5 := by
        rcases Nat.lt_or_ge i 5 with h | h
        · exact h
        · rw [List.getElem?_eq_none (by exact h)] at ha; cases ha
      have hv' : ∃ tv : Tok, v = .int (cf i) tv := by
        have hi' : i = 0 ∨ i = 1 ∨ i = 2 ∨ i = 3 ∨ i = 4 := by omega
        rw [hcf]
        rcases hi' with rfl | rfl | rfl | rfl | rfl
        all_goals (
          have ha' := Option.some.inj ha
          subst ha'
          exact ⟨_, hv⟩)
      clear hv ha
      obtain ⟨tv, rfl⟩ := hv'
      have hD := hsub.1
      refine AllObj.cons fun o1 hc1 => AllObj.nil fun N3 => ?_
      try dsimp only at hc1
      have N4 := news_cons (N3 _ (List.mem_append_left _ (List.Mem.head _))) (news_cons (N3 _ (List.mem_append_right _ hD)) (news_cons (N3 _ (List.mem_append_right _ hm1)) (news_cons (N3 _ (List.mem_append_right _ hm2)) (fun p hp => N3 p (List.mem_append_right _ (hTs p hp)) : News _ _ _ (TL cf 0 Ts)))))
      clear N3 hm1 hm2 hD hsub
      dsimp only at N4
      have hTL := TL_lt (cf := cf) (j := 0) hTl
      have hne : ∀ p ∈ TL cf 0 Ts, p.1 ≠ _ := fun p hp => Nat.ne_of_gt (hTL p hp).1
      obtain ⟨cc, hcc⟩ : ∃ cc, cc = cf i := ⟨_, rfl⟩
      rw [← hcc]
      have e4 := and_sum _ (m16 cc).1 (m16 cc).2
      (try k_fold)
      repeat' (first | (k_unfold; (try dsimp only)) | (k_end; wrow_close) | ((with_reducible show wpAny _ _ (execs _ _) _ _ _); k_fold) | walk1 | (dsimp only; walk1) | (leave1; walk_say "STEP leave1"; try dsimp only) | fail "no step")
      rename Fr _ _ _ _ => lF'
      rename News _ _ _ _ => lN'
      unfold Blk
      obtain ⟨ps, hps, lN2⟩ := news_name lN'
      refine iter_listTurns (by rfl) lF' lN' (List.Mem.tail _ (List.Mem.tail _ (List.Mem.head _))) (by rfl) (by rfl) ?_
      intro I2 hI2
      rw [← hps] at hI2
      refine itemsRest_inv (J3 ps mk) ?_ ?_ _ 0 _ _ (Nat.zero_add _) ⟨List.Mem.tail _ (List.Mem.tail _ (List.Mem.head _)), trivial⟩ ⟨⟨_, dirty2 (fun y h1 h2 => rfl)⟩, fun p hp => hps ▸ hp⟩
      · clear lF' lN'
        intro j a m2 news2 ha2 hJ2 _ v2 h2 tk2 hv2 F6
        obtain ⟨⟨u2, rfl⟩, hin⟩ := hJ2
        have hTj : ∃ p, Ts[j]? = some p ∧ v2 = .ref p.1 := by
          have h3 : ((Ts.map fun p => Value.ref p.1)[j]?).map Itm.val = some a := by rw [← List.getElem?_map]; exact ha2
          rw [List.getElem?_map] at h3
          cases hT : Ts[j]? with
          | none => rw [hT] at h3; cases h3
          | some p => rw [hT] at h3; exact ⟨p, rfl, by cases h3; exact hv2⟩
        obtain ⟨⟨T, tp, tr⟩, hTj, rfl⟩ := hTj
        have hmT : (T, tupO (cf (0 + j)) tp tr) ∈ ps := by
          rw [hps]
          exact List.Mem.tail _ (List.Mem.tail _ (List.Mem.tail _ (List.Mem.tail _ (TL_at hTj))))
        refine AllObj.cons fun o3 hc3 => AllObj.nil fun N6 => ?_
        have hT2 : IsTup h2 T #[.int (pl ((cf (0 + j)).fmod 65536) : Int) tp, .str (rowP (pl ((cf (0 + j)).fmod 65536))) tr] := ⟨_, (N6 _ (List.mem_append_right _ (hin _ hmT))).1, rfl, _, rfl⟩
        clear hmT
        generalize cf (0 + j) = cj at hT2
        have N7 := news_cons (N6 _ (List.mem_append_left _ (List.Mem.head _))) (fun p hp => N6 p (List.mem_append_right _ (hin p hp)) : News _ _ _ ps)
        clear N6 hin lN2
        try dsimp only at hc3
        (try k_fold)
        repeat' (first | (k_unfold; (try dsimp only)) | (k_end; wrow_close) | ((with_reducible show wpAny _ _ (execs _ _) _ _ _); k_fold) | walk1 | (dsimp only; walk1) | (leave1; walk_say "STEP leave1"; try dsimp only) | fail "no step")
        exact UnrEndW.intro (by assumption) (by assumption) ps ⟨List.Mem.head _, trivial⟩ (subL_of fun p hp => List.Mem.tail _ hp) (offW_of fun p hp q hq => .inl (by rw [List.mem_singleton.mp hq]; exact Nat.ne_of_lt (hI2 p hp))) ⟨⟨by rw [hps]; exact List.Mem.tail _ (List.Mem.tail _ (List.Mem.head _)), trivial⟩, ⟨_, dirty2 (fun y h1 h2 => by simp +zetaDelta only [h1, h2, if_false])⟩, fun p hp => hp⟩
      · clear lF' lN'
        intro m2 news2 hJ2 h2 tk2 F6 N6
        obtain ⟨⟨u2, rfl⟩, hin⟩ := hJ2
        have N7 : News _ _ h2 ps := fun p hp => N6 p (hin p hp)
        rw [hps] at N7
        clear N6 hin lN2
        repeat' (first | (k_unfold; (try dsimp only)) | (k_end; wrow_close) | ((with_reducible show wpAny _ _ (execs _ _) _ _ _); k_fold) | walk1 | (dsimp only; walk1) | (leave1; walk_say "STEP leave1"; try dsimp only) | fail "no step")
        rename Fr _ _ _ _ => lF3
        rename News _ _ _ _ => lN3
        exact endJ2 lF3 lN3 hc1 rfl rfl hcc hlen (by omega) hTl hst (by with_unfolding_all rfl) (by with_unfolding_all rfl) (by with_unfolding_all rfl))
end
end Mine
theorem PySem.Challenge.cw_sh0089_01_holds : PySem.Challenge.rw_sh0089_01.Holds :=
  Mine.mainT
