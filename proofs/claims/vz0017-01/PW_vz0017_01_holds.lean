import PyProof.Rows.All
import Wide.All
import OpenK.AllK
import Wide.FinOn
import OpenK.KLaw
import Lean
import PySem.Challenge.RW_vz0017_01
open PySem PySem.W PyProof.Rows
set_option Elab.async false
namespace Mine
set_option maxRecDepth 100000 in
set_option maxHeartbeats 8000000 in
open_top hd for PySem.Challenge.rw_vz0017_01
end Mine

open PySem PySem.W PyProof.Rows
set_option Elab.async false
namespace Mine
noncomputable abbrev pw : Program := PySem.Challenge.pw_vz0017_01
noncomputable abbrev lz : List Str := looseW hd.view_39 [Str.ofString "DXFValueError", Str.ofString "DXFTag", Str.ofString "DXFVertex", Str.ofString "Tags"]
noncomputable def lawScope : Scope := match pw.main.body.getLast? with
  | some (.FunctionDef _ _ _ _ _ _ sc _ _ _) => sc
  | _ => default
noncomputable abbrev A1 (L fa : Addr) (cd : Value) : Around := callerA.deeper (envOf (Str.ofString "law") lawScope L fa cd)

theorem kfilled : (hd.heap_39 = hd.heap_39) → (PySem.Challenge.rw_vz0017_01 = PySem.Challenge.rw_vz0017_01) → True := by
  k_fill
  intros; trivial

local macro_rules | `(tactic| walk_at "stp") => `(tactic| first | (k_unfold; (try dsimp only)) | walk1 | (dsimp only; walk1))

set_option maxRecDepth 100000 in
set_option maxHeartbeats 8000000 in
theorem num_call {w : World} {h₀ : Heap} {L : Addr} {m : Str → Option Value} {s : Shared} {news : List (Addr × Obj)} {fa : Addr} {cd : Value} {mean : ExcName → Option Value} {mg mb : Str → Option Value}
  (B : Below callerA h₀ [] h₀) (F : Fr h₀ L s.heap m) (KX : (hd.heap_39 w.params).In h₀) (N : News h₀ L s.heap news) (T : Top hd.view_39 lz mean mg mb h₀)
  {sl : Addr} {vs : List Value} {ns : List Int} (hl : h₀.IsList sl vs.toArray) (hi : IntsAre vs ns) (hlen : ns.length ≤ 63) {p : Int} {tp : Tok} (hp : 0 ≤ p) (hp2 : p ≤ 12)
  {R : Result → Shared → Prop} (k : ∀ h' tk i t, Fr h₀ L h' m → News h₀ L h' news → R (.ok (.ret (.int i t))) {s with heap := h', toks := tk}) :
  codeAny (model pw w) (A1 L fa cd) (.call (.ref 460) ⟨[.ref sl, .int p tp], []⟩) R s := by
  k_enter
  repeat' (walk_at "stp")
  all_goals (refine k _ _ _ _ ?_ ?_ <;> assumption)
end Mine

set_option Elab.async false
namespace Mine
open PySem PySem.W PyProof.Rows
def IsSeq (h : Heap) (l : Addr) (items : Array Value) : Prop := ∃ o n, h.get? l = some o ∧ o.data = .seq items n
theorem IsSeq.of_list {h : Heap} {l : Addr} {items : Array Value} (x : h.IsList l items) : IsSeq h l items := let ⟨o, ho, _, n, hd⟩ := x; ⟨o, n, ho, hd⟩
theorem IsSeq.at {h h' : Heap} {l : Addr} {items : Array Value} (x : IsSeq h l items) (e : ∀ o, h.get? l = some o → h'.get? l = some o) : IsSeq h' l items := let ⟨o, n, ho, hd⟩ := x; ⟨o, n, e o ho, hd⟩
theorem IsSeq.lt {h : Heap} {l : Addr} {items : Array Value} (x : IsSeq h l items) : l < h.objs.size := let ⟨_, _, ho, _⟩ := x; Heap.lt_size ho
section
variable {prog : Program} {w : World} {A : Around} {E : Value → Shared → Prop} {s : Shared}

theorem nextS_item {it l : Addr} {i : Nat} {items} {x : Value} {Q : Option Value → Shared → Prop} (hit : s.heap.IsListIter it l i)
    (hl : IsSeq s.heap l items) (hx : items[i]? = some x)
    (hQ : ∀ h', h'.IsListIter it l (i + 1) → Heap.SameBut it s.heap h' → Q (some x) { s with heap := h' }) :
    wpAny (model prog w) A (pyNext (.ref it)) Q E s := by
  obtain ⟨o, ho, hc, hd⟩ := id hit
  obtain ⟨ol, nl, hol, hdl⟩ := hl
  unfold pyNext
  refine wpAny_bind (wpAny_attempt (wpAny_callSpecial?_slot (name := Str.ofString "__next__") hit.typeIs slot_listiter_next
    (wpAny_call_entry slot_listiter_next hit.typeIs entry_listiter_next ?_ (args_listiter_next _))))
  show wpAny _ _ (field (.ref it) 0 >>= _) _ _ s
  refine wpAny_bind (wpAny_field ho hd (x := .ref l) rfl ?_)
  show wpAny _ _ (if (Value.ref l == Value.none) = true then _ else _) _ _ s
  rw [if_neg (show ¬ ((Value.ref l == Value.none) = true) from Bool.false_ne_true)]
  show wpAny _ _ (field (.ref it) 1 >>= _) _ _ s
  refine wpAny_bind (wpAny_field ho hd (x := .int i 0) rfl ?_)
  show wpAny _ _ (seqItems? (.ref l) >>= _) _ _ s
  refine wpAny_bind (wpAny_seqItems hol hdl ?_)
  simp only [Int.toNat_natCast, hx]
  refine wpAny_bind (wpAny_setField ho hd (by simp) (wpAny_pure ⟨x, rfl, wpAny_pure (hQ _ ?_ (Heap.SameBut.update ..))⟩))
  exact ⟨_, Heap.get?_update_self _ ho (Obj.isFreed_of_fields (Obj.data_mapFields hd _)), (Obj.cls_mapFields ..).trans hc, by
    rw [Obj.data_mapFields hd]; simp [rawInt]⟩

theorem nextS_end {it l : Addr} {i : Nat} {items} {Q : Option Value → Shared → Prop} (hh : A.handled = none)
    (hit : s.heap.IsListIter it l i) (hl : IsSeq s.heap l items) (hx : items[i]? = none)
    (hQ : ∀ h', Heap.ExtBut it s.heap h' → Q none { s with heap := h' }) : wpAny (model prog w) A (pyNext (.ref it)) Q E s := by
  obtain ⟨o, ho, hc, hd⟩ := id hit
  obtain ⟨ol, nl, hol, hdl⟩ := hl
  unfold pyNext
  refine wpAny_bind (wpAny_attempt (wpAny_callSpecial?_slot (name := Str.ofString "__next__") hit.typeIs slot_listiter_next
    (wpAny_call_entry slot_listiter_next hit.typeIs entry_listiter_next ?_ (args_listiter_next _))))
  show wpAny _ _ (field (.ref it) 0 >>= _) _ _ s
  refine wpAny_bind (wpAny_field ho hd (x := .ref l) rfl ?_)
  show wpAny _ _ (if (Value.ref l == Value.none) = true then _ else _) _ _ s
  rw [if_neg (show ¬ ((Value.ref l == Value.none) = true) from Bool.false_ne_true)]
  show wpAny _ _ (field (.ref it) 1 >>= _) _ _ s
  refine wpAny_bind (wpAny_field ho hd (x := .int i 0) rfl ?_)
  show wpAny _ _ (seqItems? (.ref l) >>= _) _ _ s
  refine wpAny_bind (wpAny_seqItems hol hdl ?_)
  simp only [Int.toNat_natCast, hx]
  refine wpAny_bind (wpAny_rule (wpAny_bind (wpAny_setField ho hd (by simp) ?_)))
  show wpAny _ _ (newExc (.type "StopIteration") [] >>= _) _ _ _
  refine wpAny_bind ?_
  simp only [newExc, newTuple]
  refine wpAny_bind (wpAny_newObj_type ?_ (by size_fits))
  refine wpAny_bind (m := firstArgMember _ _) (wpAny_of_eq (a := Value.none) (by first | rfl | (simp only [firstArgMember]; rfl)) ?_)
  refine wpAny_newObj_type ?_ (by size_fits)
  simp only [raiseNew]
  refine wpAny_bind (wpAny_handled ?_)
  rw [show A.in1.handled = none from hh]
  refine wpAny_bind (wpAny_pure (wpAny_throw ?_))
  refine wpAny_bind (wpAny_isInstance (T := "StopIteration") (b := true) ⟨_, Heap.get?_push_size _ rfl, rfl⟩ isSubtype_stop ?_)
  exact wpAny_pure (hQ _ (((Heap.SameBut.update ..).extBut.push _).push _))

theorem nextOfS_item {it l : Addr} {i : Nat} {items} {x : Value} {Q : Value → Shared → Prop} (hit : s.heap.IsListIter it l i)
    (hl : IsSeq s.heap l items) (hx : items[i]? = some x)
    (hQ : ∀ h', h'.IsListIter it l (i + 1) → Heap.SameBut it s.heap h' → Q x { s with heap := h' }) :
    wpAny (model prog w) A (Builtin.SmallTypes.nextOf (.ref it)) Q E s := by
  obtain ⟨o, ho, hc, hd⟩ := id hit
  obtain ⟨ol, nl, hol, hdl⟩ := hl
  unfold Builtin.SmallTypes.nextOf
  refine wpAny_bind (wpAny_callSpecial?_slot (name := Str.ofString "__next__") hit.typeIs slot_listiter_next
    (wpAny_call_entry slot_listiter_next hit.typeIs entry_listiter_next ?_ (args_listiter_next _)))
  show wpAny _ _ (field (.ref it) 0 >>= _) _ _ s
  refine wpAny_bind (wpAny_field ho hd (x := .ref l) rfl ?_)
  show wpAny _ _ (if (Value.ref l == Value.none) = true then _ else _) _ _ s
  rw [if_neg (show ¬ ((Value.ref l == Value.none) = true) from Bool.false_ne_true)]
  show wpAny _ _ (field (.ref it) 1 >>= _) _ _ s
  refine wpAny_bind (wpAny_field ho hd (x := .int i 0) rfl ?_)
  show wpAny _ _ (seqItems? (.ref l) >>= _) _ _ s
  refine wpAny_bind (wpAny_seqItems hol hdl ?_)
  simp only [Int.toNat_natCast, hx]
  refine wpAny_bind (wpAny_setField ho hd (by simp) (wpAny_pure ⟨x, rfl, wpAny_pure (hQ _ ?_ (Heap.SameBut.update ..))⟩))
  exact ⟨_, Heap.get?_update_self _ ho (Obj.isFreed_of_fields (Obj.data_mapFields hd _)), (Obj.cls_mapFields ..).trans hc, by
    rw [Obj.data_mapFields hd]; simp [rawInt]⟩

theorem nextOfS_end {it l : Addr} {i : Nat} {items} {Q : Value → Shared → Prop} (hh : A.handled = none)
    (hit : s.heap.IsListIter it l i) (hl : IsSeq s.heap l items) (hx : items[i]? = none)
    (hE : ∀ h' e, Heap.ExtBut it s.heap h' → (∃ o, h'.get? e = some o ∧ o.cls = .type "StopIteration") → E (.ref e) { s with heap := h' }) :
    wpAny (model prog w) A (Builtin.SmallTypes.nextOf (.ref it)) Q E s := by
  obtain ⟨o, ho, hc, hd⟩ := id hit
  obtain ⟨ol, nl, hol, hdl⟩ := hl
  unfold Builtin.SmallTypes.nextOf
  refine wpAny_bind (wpAny_callSpecial?_slot (name := Str.ofString "__next__") hit.typeIs slot_listiter_next
    (wpAny_call_entry slot_listiter_next hit.typeIs entry_listiter_next ?_ (args_listiter_next _)))
  show wpAny _ _ (field (.ref it) 0 >>= _) _ _ s
  refine wpAny_bind (wpAny_field ho hd (x := .ref l) rfl ?_)
  show wpAny _ _ (if (Value.ref l == Value.none) = true then _ else _) _ _ s
  rw [if_neg (show ¬ ((Value.ref l == Value.none) = true) from Bool.false_ne_true)]
  show wpAny _ _ (field (.ref it) 1 >>= _) _ _ s
  refine wpAny_bind (wpAny_field ho hd (x := .int i 0) rfl ?_)
  show wpAny _ _ (seqItems? (.ref l) >>= _) _ _ s
  refine wpAny_bind (wpAny_seqItems hol hdl ?_)
  simp only [Int.toNat_natCast, hx]
  refine wpAny_bind (wpAny_rule (wpAny_bind (wpAny_setField ho hd (by simp) ?_)))
  show wpAny _ _ (newExc (.type "StopIteration") [] >>= _) _ _ _
  refine wpAny_bind ?_
  simp only [newExc, newTuple]
  refine wpAny_bind (wpAny_newObj_type ?_ (by size_fits))
  refine wpAny_bind (m := firstArgMember _ _) (wpAny_of_eq (a := Value.none) (by first | rfl | (simp only [firstArgMember]; rfl)) ?_)
  refine wpAny_newObj_type ?_ (by size_fits)
  simp only [raiseNew]
  refine wpAny_bind (wpAny_handled ?_)
  first | rw [show A.in1.handled = none from hh] | rw [hh]
  refine wpAny_bind (wpAny_pure (wpAny_throw ?_))
  exact hE _ _ (((Heap.SameBut.update ..).extBut.push _).push _) ⟨_, Heap.get?_push_size _ rfl, rfl⟩

theorem enumS_next {e it l : Addr} {i : Nat} {items : Array Value} {x old : Value} {Q : Value → Shared → Prop}
    (he : IsEnum s.heap e it i old) (hit : s.heap.IsListIter it l i) (hl : IsSeq s.heap l items) (hx : items[i]? = some x) (hne : e ≠ it)
    (hQ : ∀ h', IsEnumOut h' e it ((i : Int) + 1) x s.heap.objs.size → h'.IsListIter it l (i + 1) →
      h'.get? s.heap.objs.size = some { cls := .type "tuple", data := .seq #[.int i s.toks, x] } → h'.objs.size = s.heap.objs.size + 1 →
      (∀ b o, b ≠ e → b ≠ it → s.heap.get? b = some o → h'.get? b = some o) → Q (.ref s.heap.objs.size) { s with heap := h', toks := s.toks + 1 }) :
    wpAny (model prog w) A (Builtin.«enumerate.__next__» ⟨[.ref e], []⟩) (fun fin s' => ∃ v, fin = .done (.ret v) ∧ Q v s') E s := by
  obtain ⟨hp, g, d, tk, os⟩ := s
  show wpAny _ _ (field (.ref e) 2 >>= _) _ _ _
  refine wpAny_bind (wpAny_field he rfl (x := .ref it) rfl ?_)
  refine wpAny_bind (nextOfS_item hit hl hx fun h₁ hit₁ hs₁ => ?_)
  replace hs₁ : Heap.SameBut it hp h₁ := hs₁
  have he₁ : IsEnum h₁ e it i old := (hs₁.2 e hne).trans he
  show wpAny _ _ (field (.ref e) 3 >>= _) _ _ ⟨h₁, g, d, tk, os⟩
  refine wpAny_bind (wpAny_field he₁ rfl (x := rawInt i) rfl ?_)
  show wpAny _ _ (field (.ref e) 4 >>= _) _ _ ⟨h₁, g, d, tk, os⟩
  refine wpAny_bind (wpAny_field he₁ rfl (x := .none) rfl ?_)
  show wpAny _ _ (mkInt i >>= _) _ _ ⟨h₁, g, d, tk, os⟩
  refine wpAny_bind (wpAny_mkInt ?_)
  show wpAny _ _ (setField (.ref e) 3 (rawInt ((i : Int) + 1)) >>= _) _ _ ⟨h₁, g, d, tk + 1, os⟩
  refine wpAny_bind (wpAny_setField_rec he₁ (by simp) fun h₂ he₂ hs₂ => ?_)
  replace hs₂ : Heap.SameBut e h₁ h₂ := hs₂
  replace he₂ : IsEnum h₂ e it ((i : Int) + 1) old := he₂
  show wpAny _ _ (setField (.ref e) 4 .none >>= _) _ _ ⟨h₂, g, d, tk + 1, os⟩
  refine wpAny_bind (wpAny_setField_rec he₂ (by simp) fun h₃ he₃ hs₃ => ?_)
  replace hs₃ : Heap.SameBut e h₂ h₃ := hs₃
  replace he₃ : IsEnum h₃ e it ((i : Int) + 1) old := he₃
  show wpAny _ _ (newTuple [.int i tk, x] >>= _) _ _ ⟨h₃, g, d, tk + 1, os⟩
  refine wpAny_bind (wpAny_newTuple ?_)
  have he₄ : IsEnum (h₃.push { cls := .type "tuple", data := .seq #[.int i tk, x] }) e it ((i : Int) + 1) old := Heap.get?_push_of_some _ he₃
  generalize hh₄ : h₃.push { cls := .type "tuple", data := .seq #[.int i tk, x] } = h₄ at he₄
  have hsz : h₃.objs.size = hp.objs.size := by rw [hs₃.1, hs₂.1, hs₁.1]
  have hel : e < hp.objs.size := Heap.lt_size he
  have ht₄ : h₄.get? hp.objs.size = some { cls := .type "tuple", data := .seq #[.int i tk, x] } := by rw [← hh₄, ← hsz]; exact Heap.get?_push_size _ rfl
  have hz₄ : h₄.objs.size = hp.objs.size + 1 := by rw [← hh₄, Heap.size_push, hsz]
  have hk₄ : ∀ b o, b ≠ e → b ≠ it → hp.get? b = some o → h₄.get? b = some o := fun b o hbe hbi hb => by
    rw [← hh₄]; exact Heap.get?_push_of_some _ (hs₃.extBut b o hbe (hs₂.extBut b o hbe (hs₁.extBut b o hbi hb)))
  have hit₄ : h₄.IsListIter it l (i + 1) := by
    rw [← hh₄]; obtain ⟨o, ho, r⟩ := (hit₁.extBut hs₂.extBut (Ne.symm hne)).extBut hs₃.extBut (Ne.symm hne); exact ⟨o, Heap.get?_push_of_some _ ho, r⟩
  show wpAny _ _ (Builtin.SmallTypes.ownedTupleIsFree (.ref e) >>= _) _ _ ⟨h₄, g, d, tk + 1, os⟩
  rw [hsz]
  clear hh₄ he₃ hs₃ he₂ hs₂ he₁ hs₁ hit₁ hsz h₃ h₂ h₁
  refine wpAny_bind ?_
  · unfold Builtin.SmallTypes.ownedTupleIsFree
    refine wpAny_bind (wpAny_field he₄ rfl (x := .none) rfl (wpAny_pure ?_))
    simp only [if_true]
    refine wpAny_bind (wpAny_rule ?_)
    refine wpAny_bind (wpAny_field he₄ rfl (x := old) rfl ?_)
    refine wpAny_bind (wpAny_setField_rec he₄ (by simp) fun h₅ he₅ hs₅ => ?_)
    replace hs₅ : Heap.SameBut e h₄ h₅ := hs₅
    replace he₅ : IsEnum h₅ e it ((i : Int) + 1) x := he₅
    show wpAny _ _ (Builtin.SmallTypes.ownedTupleHandOut (.ref e) (.ref hp.objs.size) >>= _) _ _ ⟨h₅, g, d, tk + 1, os⟩
    refine wpAny_bind ?_
    · unfold Builtin.SmallTypes.ownedTupleHandOut
      refine wpAny_bind (wpAny_setField_rec he₅ (by simp) fun h₆ he₆ hs₆ => ?_)
      replace hs₆ : Heap.SameBut e h₅ h₆ := hs₆
      replace he₆ : IsEnumOut h₆ e it ((i : Int) + 1) x hp.objs.size := he₆
      refine wpAny_setField_rec he₆ (by simp) fun h₇ he₇ hs₇ => ?_
      replace hs₇ : Heap.SameBut e h₆ h₇ := hs₇
      replace he₇ : IsEnumOut h₇ e it ((i : Int) + 1) x hp.objs.size := he₇
      refine wpAny_bind (wpAny_letGo (wpAny_pure ⟨_, rfl, hQ h₇ he₇ ?_ ?_ ?_ ?_⟩))
      · exact ((hit₄.extBut hs₅.extBut (Ne.symm hne)).extBut hs₆.extBut (Ne.symm hne)).extBut hs₇.extBut (Ne.symm hne)
      · exact hs₇.extBut _ _ (Nat.ne_of_gt hel) (hs₆.extBut _ _ (Nat.ne_of_gt hel) (hs₅.extBut _ _ (Nat.ne_of_gt hel) ht₄))
      · rw [hs₇.1, hs₆.1, hs₅.1, hz₄]
      · exact fun b o hbe hbi hb => hs₇.extBut b o hbe (hs₆.extBut b o hbe (hs₅.extBut b o hbe (hk₄ b o hbe hbi hb)))

theorem enumS_item {e it l : Addr} {i : Nat} {items : Array Value} {x old : Value} {Q : Option Value → Shared → Prop}
    (he : IsEnum s.heap e it i old) (hit : s.heap.IsListIter it l i) (hl : IsSeq s.heap l items) (hx : items[i]? = some x) (hne : e ≠ it)
    (hQ : ∀ h', IsEnumOut h' e it ((i : Int) + 1) x s.heap.objs.size → h'.IsListIter it l (i + 1) →
      h'.get? s.heap.objs.size = some { cls := .type "tuple", data := .seq #[.int i s.toks, x] } → h'.objs.size = s.heap.objs.size + 1 →
      (∀ b o, b ≠ e → b ≠ it → s.heap.get? b = some o → h'.get? b = some o) → Q (some (.ref s.heap.objs.size)) { s with heap := h', toks := s.toks + 1 }) :
    wpAny (model prog w) A (pyNext (.ref e)) Q E s := by
  have hT : s.TypeIs (.ref e) "enumerate" := ⟨_, he, rfl⟩
  unfold pyNext
  exact wpAny_bind (wpAny_attempt (wpAny_callSpecial?_slot (name := Str.ofString "__next__") hT F.slot_enumerate_next
    (wpAny_call_entry F.slot_enumerate_next hT F.entry_enumerate_next
      (enumS_next he hit hl hx hne fun h' a b c d k => wpAny_pure (hQ h' a b c d k)) (F.args_enumerate_next_1 _))))

theorem enumS_end {e it l : Addr} {i : Nat} {items : Array Value} {old : Value} {Q : Option Value → Shared → Prop} (hh : A.handled = none)
    (he : IsEnum s.heap e it i old) (hit : s.heap.IsListIter it l i) (hl : IsSeq s.heap l items) (hx : items[i]? = none)
    (hQ : ∀ h', Heap.ExtBut it s.heap h' → Q none { s with heap := h' }) : wpAny (model prog w) A (pyNext (.ref e)) Q E s := by
  have hT : s.TypeIs (.ref e) "enumerate" := ⟨_, he, rfl⟩
  unfold pyNext
  refine wpAny_bind (wpAny_attempt (wpAny_callSpecial?_slot (name := Str.ofString "__next__") hT F.slot_enumerate_next
    (wpAny_call_entry F.slot_enumerate_next hT F.entry_enumerate_next ?_ (F.args_enumerate_next_1 _))))
  show wpAny _ _ (field (.ref e) 2 >>= _) _ _ _
  refine wpAny_bind (wpAny_field he rfl (x := .ref it) rfl ?_)
  refine wpAny_bind (nextOfS_end hh hit hl hx fun h' x he' hx' => ?_)
  obtain ⟨o, ho, hc⟩ := hx'
  refine wpAny_bind (wpAny_isInstance (T := "StopIteration") (b := true) ⟨o, ho, hc⟩ isSubtype_stop ?_)
  exact wpAny_pure (hQ _ he')

end
end Mine

set_option Elab.async false
namespace Mine
open PySem PySem.W PyProof.Rows

def Draw (prog : Program) (w : World) (A : Around) (target : PySem.Expr) (it : Value) (env : Env) (E : Value → Shared → Prop) (Qn Qs : Shared → Prop) (s : Shared) : Prop :=
  wpAny (model prog w) A (pyNext it) (fun r s₁ => match r with
    | none => Qn s₁
    | some v => wpAny (model prog w) A (letOwnedTupleGo target it v) (fun _ s₁' => wpAny (model prog w) A (assign target env v) (fun _ s₂ => Qs s₂) E s₁') E s₁) E s

section
variable {prog : Program} {w : World} {A : Around} {E : Value → Shared → Prop} {R : Result → Shared → Prop} {s : Shared}

theorem compLoopD {elt target iter : PySem.Expr} {ifs : List PySem.Expr} {scope : Scope} {pos : Pos} {it acc : Value} {env : Env} (I : Nat → Shared → Prop)
    (turn : ∀ n s, I n s → Draw prog w A target it env (notedBy (model prog w) A env fun e s' => R (.error e) s') (R (.ok .next)) (fun s₂ =>
          wpAny (model prog w) A (forIn ifs true fun c r => if r = true then do let ok ← isTrue c env (eval c env); pure (ForInStep.yield ok) else pure (ForInStep.yield r)) (fun ok s₃ =>
            if ok = true then wpAny (model prog w) A (eval elt env) (fun x s₄ =>
              wpAny (model prog w) A (call (.builtin "list.append") [acc, x]) (fun _ s₅ => ∃ m, m < n ∧ I m s₅) (notedBy (model prog w) A env fun e s' => R (.error e) s') s₄) (notedBy (model prog w) A env fun e s' => R (.error e) s') s₃
            else ∃ m, m < n ∧ I m s₃) (notedBy (model prog w) A env fun e s' => R (.error e) s') s₂) s)
    (n : Nat) (h : I n s) :
    codeAny (model prog w) A (.compLoop (.ListComp elt [⟨target, iter, ifs, 0⟩] scope pos) 0 it acc env) R s := by
  refine codeAny_loop rfl I (fun n s hI => ?_) n h
  show wpAny _ A ((compTurn (.ListComp elt [⟨target, iter, ifs, 0⟩] scope pos) 0 it acc env).onRaise (fun x => do noteFrame x env; theTreesLotGoes x)) _ _ s
  refine wpAny_noted ?_
  rw [compTurn_list]
  refine wpAny_bind (wpAny_standAt (wpAny_bind (wpAny_mono (turn n s hI) (fun r s₁ h₁ => ?_) fun _ _ h' => h')))
  cases r with
  | none => exact wpAny_pure h₁
  | some v =>
    refine wpAny_bind (wpAny_mono h₁ (fun _ s₁' h₁' => ?_) fun _ _ h' => h')
    refine wpAny_bind (wpAny_mono h₁' (fun _ s₂ h₂ => wpAny_bind (wpAny_mono h₂ (fun ok s₃ h₃ => ?_) fun _ _ h' => h')) fun _ _ h' => h')
    cases ok with
    | false => exact wpAny_pure ⟨rfl, h₃⟩
    | true =>
      exact wpAny_bind (wpAny_bind (wpAny_mono h₃ (fun x s₄ h₄ => wpAny_bind (wpAny_mono h₄ (fun _ s₅ h₅ => wpAny_pure (wpAny_pure ⟨rfl, h₅⟩)) fun _ _ h' => h')) fun _ _ h' => h'))
end

/-- a source that a comprehension or a loop draws from; B i is what the names hold at turn i -/
structure Src (prog : Program) (w : World) (A : Around) (target : PySem.Expr) (I : Addr) (env : Env) (fp wr : List Addr) (n : Nat) (B : Nat → (Str → Option Value) → Prop) (St : Nat → Heap → Prop) : Prop where
  sub : ∀ b ∈ wr, b ∈ fp
  frame : ∀ i h h', St i h → (∀ b ∈ fp, ∀ o, h.get? b = some o → h'.get? b = some o) → St i h'
  live : ∀ i h, St i h → ∀ b ∈ fp, ∃ o, h.get? b = some o
  item : ∀ i (s : Shared) m (E : Value → Shared → Prop) (Qn Qs : Shared → Prop), i < n → St i s.heap → s.heap.Ns env.locals m →
    (∀ h' tk m', B i m' → h'.Ns env.locals m' → St (i + 1) h' → (∀ b o, b ≠ env.locals → b ∉ wr → s.heap.get? b = some o → h'.get? b = some o) → Qs { s with heap := h', toks := tk }) → Draw prog w A target (.ref I) env E Qn Qs s
  done : ∀ (s : Shared) (E : Value → Shared → Prop) (Qn Qs : Shared → Prop), St n s.heap →
    (∀ h' tk, (∀ b o, b ∉ wr → s.heap.get? b = some o → h'.get? b = some o) → Qn { s with heap := h', toks := tk }) → Draw prog w A target (.ref I) env E Qn Qs s
  self : ∀ (s : Shared) (Q : Value → Shared → Prop) (E : Value → Shared → Prop), St 0 s.heap → Q (.ref I) s → wpAny (model prog w) A (pyIter (.ref I)) Q E s

section
variable {prog : Program} {w : World} {A : Around} {R : Result → Shared → Prop} {s : Shared}

theorem range_filter_succ (p : Nat → Bool) (i : Nat) : (List.range (i + 1)).filter p = (List.range i).filter p ++ (if p i then [i] else []) := by
  rw [List.range_succ, List.filter_append]
  cases hp : p i <;> simp [hp]

theorem Paired.imp {α β : Type} {F G : α → β → Prop} (h : ∀ a b, F a b → G a b) : ∀ {l₁ : List α} {l₂ : List β}, Paired F l₁ l₂ → Paired G l₁ l₂
  | _, _, .nil => .nil
  | _, _, .cons x t => .cons (h _ _ x) (Paired.imp h t)

theorem compLoop_src {elt iter target : PySem.Expr} {ifs : List PySem.Expr} {scope : Scope} {pos : Pos} {I D : Addr} {fp wr : List Addr} {n : Nat} {B : Nat → (Str → Option Value) → Prop} {St : Nat → Heap → Prop}
    {cenv : Env} {m : Str → Option Value} (W : Src prog w A target I cenv fp wr n B St) (p : Nat → Bool) (F : Nat → Heap → Value → Prop)
    (hF : ∀ i h h' y, F i h y → (∀ b o, b ≠ cenv.locals → b ∉ wr → b ≠ D → h.get? b = some o → h'.get? b = some o) → F i h' y)
    (hDC : D ≠ cenv.locals) (hDf : D ∉ fp) (hCf : cenv.locals ∉ fp)
    (hst : St 0 s.heap) (hacc : s.heap.PlainList D #[]) (hn : s.heap.Ns cenv.locals m)
    (htests : ∀ i s₂ m₂ E', i < n → B i m₂ → s₂.heap.Ns cenv.locals m₂ → (∀ b o, b ≠ cenv.locals → b ∉ wr → b ≠ D → s.heap.get? b = some o → s₂.heap.get? b = some o) →
      wpAny (model prog w) A (forIn ifs true fun c r => if r = true then do let ok ← isTrue c cenv (eval c cenv); pure (ForInStep.yield ok) else pure (ForInStep.yield r))
        (fun ok s₃ => ok = p i ∧ Keeps s₂ s₃) E' s₂)
    (helt : ∀ i s₂ m₂ E', i < n → B i m₂ → p i = true → s₂.heap.Ns cenv.locals m₂ → (∃ ys, s₂.heap.PlainList D ys) → (∀ b o, b ≠ cenv.locals → b ∉ wr → b ≠ D → s.heap.get? b = some o → s₂.heap.get? b = some o) →
      wpAny (model prog w) A (eval elt cenv) (fun y s₃ => F i s₃.heap y ∧ Keeps s₂ s₃) E' s₂)
    (hR : ∀ h' tk m' ys, h'.Ns cenv.locals m' → h'.PlainList D ys → Paired (fun i y => F i h' y) ((List.range n).filter p) ys.toList →
      (∀ b o, b ≠ cenv.locals → b ∉ wr → b ≠ D → s.heap.get? b = some o → h'.get? b = some o) → R (.ok .next) { s with heap := h', toks := tk })
    (hsz : n ≤ sizeLine) :
    codeAny (model prog w) A (.compLoop (.ListComp elt [⟨target, iter, ifs, 0⟩] scope pos) 0 (.ref I) (.ref D) cenv) R s := by
  refine compLoopD
    (fun k s' => ∃ h' tk m' ys i, s' = { s with heap := h', toks := tk } ∧ St i h' ∧ h'.PlainList D ys ∧ h'.Ns cenv.locals m' ∧
      Paired (fun i y => F i h' y) ((List.range i).filter p) ys.toList ∧ i ≤ n ∧ k = n + 1 - i ∧
      (∀ b o, b ≠ cenv.locals → b ∉ wr → b ≠ D → s.heap.get? b = some o → h'.get? b = some o)) ?_ (n + 1)
    ⟨s.heap, s.toks, m, #[], 0, rfl, hst, hacc, hn, by simpa using Paired.nil, Nat.zero_le _, rfl, fun _ _ _ _ _ e => e⟩
  rintro k s' ⟨H, tk, m', ys, i, rfl, hst', hacc', hn', hP, hi, rfl, hk⟩
  have hCw : cenv.locals ∉ wr := fun h => hCf (W.sub _ h)
  have hDw : D ∉ wr := fun h => hDf (W.sub _ h)
  by_cases hlt : i < n
  · refine W.item i _ m' _ _ _ hlt hst' hn' fun h₂ tk₂ m₂ hB hn₂ hst₂ hk₂ => ?_
    have up₂ : ∀ b o, b ≠ cenv.locals → b ∉ wr → b ≠ D → s.heap.get? b = some o → h₂.get? b = some o := fun b o h1 h2 h3 e => hk₂ b o h1 h2 (hk b o h1 h2 h3 e)
    refine wpAny_mono (htests i _ m₂ _ hlt hB hn₂ up₂) (fun ok s₃ h₃ => ?_) fun _ _ e => e
    obtain ⟨rfl, h₃, tk₃, rfl, hk₃⟩ := h₃
    have hst₃ : St (i + 1) h₃ := W.frame _ _ _ hst₂ fun b _ o e => hk₃ b o e
    have hacc₃ : h₃.PlainList D ys := hacc'.at fun o e => hk₃ _ o (hk₂ D o hDC hDw e)
    have hn₃ := hn₂.keeps hk₃
    have hP₃ : Paired (fun i y => F i h₃ y) ((List.range i).filter p) ys.toList := Paired.imp (fun a b x => hF _ _ _ _ x fun b o h1 h2 _ e => hk₃ b o (hk₂ b o h1 h2 e)) hP
    cases hpv : p i with
    | false =>
      simp only [Bool.false_eq_true, if_false]
      refine ⟨n + 1 - (i + 1), by omega, h₃, tk₃, _, ys, i + 1, rfl, hst₃, hacc₃, hn₃, ?_, hlt, rfl, fun b o h1 h2 h3 e => hk₃ b o (up₂ b o h1 h2 h3 e)⟩
      rw [range_filter_succ, hpv]; simpa using hP₃
    | true =>
      simp only [if_true]
      refine wpAny_mono (helt i _ _ _ hlt hB hpv hn₃ ⟨_, hacc₃⟩ (fun b o h1 h2 h3 e => hk₃ b o (up₂ b o h1 h2 h3 e))) (fun y s₄ h₄ => ?_) fun _ _ e => e
      obtain ⟨hFy, h₄, tk₄, rfl, hk₄⟩ := h₄
      have hys : ys.size ≤ sizeLine := by
        have e1 := hP.length
        have e2 : ((List.range i).filter p).length ≤ (List.range i).length := List.length_filter_le _ _
        have e3 : (List.range i).length = i := List.length_range
        have e4 : ys.toList.length = ys.size := by simp
        omega
      refine wpAny_list_append_plain (hsz := hys) (hacc₃.at fun o e => hk₄ _ o e) fun h₅ hl₅ hs₅ => ?_
      refine ⟨n + 1 - (i + 1), by omega, h₅, tk₄, _, ys.push y, i + 1, rfl, ?_, hl₅, (hn₃.keeps hk₄).sameBut hs₅ (Ne.symm hDC), ?_, hlt, rfl,
        fun b o h1 h2 h3 e => hs₅.extBut b o h3 (hk₄ b o (hk₃ b o (up₂ b o h1 h2 h3 e)))⟩
      · exact W.frame _ _ h₅ hst₃ fun b hb o e => hs₅.extBut b o (fun h => hDf (h ▸ hb)) (hk₄ b o e)
      · rw [range_filter_succ, hpv]
        have := Paired.snoc (Paired.imp (fun a b x => hF _ _ _ _ x fun b o _ _ h3 e => hs₅.extBut b o h3 (hk₄ b o e)) hP₃) (hF _ _ _ _ hFy fun b o _ _ h3 e => hs₅.extBut b o h3 e)
        simpa using this
  · obtain rfl : i = n := Nat.le_antisymm hi (Nat.not_lt.mp hlt)
    refine W.done _ _ _ _ hst' fun h₁ tk₁ hk₁ => ?_
    exact hR h₁ tk₁ m' ys (hn'.at' fun o e => hk₁ _ o hCw e) (hacc'.at fun o e => hk₁ _ o hDw e) (Paired.imp (fun a b x => hF _ _ _ _ x fun b o _ h2 _ e => hk₁ b o h2 e) hP) fun b o h1 h2 h3 e => hk₁ b o h2 (hk b o h1 h2 h3 e)
end
end Mine

set_option Elab.async false
namespace Mine
open PySem PySem.W PyProof.Rows
section
variable {prog : Program} {w : World} {A : Around}

theorem IsListIter.at' {h h' : Heap} {a l : Addr} {i : Nat} (x : h.IsListIter a l i) (e : ∀ o, h.get? a = some o → h'.get? a = some o) : h'.IsListIter a l i := let ⟨o, ho, r⟩ := x; ⟨o, e _ ho, r⟩

/-- two names bound one after the other, out of the items of a made tuple -/
theorem bind_two {E : Value → Shared → Prop} {s : Shared} {env : Env} {x x₂ : Str} {px px₂ pt : Pos} {x1 : Nat} {t : Addr} {v₁ v₂ : Value} {m : Str → Option Value} {Q : Unit → Shared → Prop}
    (hh : A.handled = none) (hx : env.kindOf x = some .local) (hx₂ : env.kindOf x₂ = some .local)
    (hp : (env.scope.kind == .class || (env.scope.kind == .module && env.locals != env.globals)) = false)
    (ht : s.heap.IsTuple t #[v₁, v₂]) (hn : s.heap.Ns env.locals m)
    (hQ : ∀ h' tk, h'.Ns env.locals (fun y => if y = x₂ then some v₂ else if y = x then some v₁ else m y) → (∀ b o, b ≠ env.locals → s.heap.get? b = some o → h'.get? b = some o) → Q () { s with heap := h', toks := tk }) :
    wpAny (model prog w) A (assign (.Tuple [.Name x px, .Name x₂ px₂] x1 pt) env (.ref t)) Q E s := by
  refine wpAny_assign_Tuple hh ht rfl rfl fun h₃ hx₃ => ?_
  replace hx₃ : Heap.ExtBut s.heap.objs.size s.heap h₃ := hx₃
  have old₃ : ∀ b o, s.heap.get? b = some o → h₃.get? b = some o := fun b o e => hx₃ b o (Nat.ne_of_lt (Heap.lt_size e)) e
  have hn₃ : h₃.Ns env.locals m := hn.keeps old₃
  show wpAny _ A (do holding [v₂] (assign (.Name x px) env v₁); do holding [] (assign (.Name x₂ px₂) env v₂); pure ()) _ _ _
  refine wpAny_bind (wpAny_holding (wpAny_assign_Name (wpAny_storeName_local hx hn₃ (fun h₄ hn₄ hs₄ => ?_) hp)))
  replace hs₄ : Heap.SameBut env.locals h₃ h₄ := hs₄
  refine wpAny_bind (wpAny_holding (wpAny_assign_Name (wpAny_storeName_local hx₂ hn₄ (fun h₅ hn₅ hs₅ => wpAny_pure ?_) hp)))
  replace hs₅ : Heap.SameBut env.locals h₄ h₅ := hs₅
  exact hQ h₅ _ hn₅ fun b o hb e => hs₅.extBut b o hb (hs₄.extBut b o hb (old₃ b o e))

theorem Src.enumPair (hh : A.handled = none) {env : Env} {x x₂ : Str} {px px₂ pt : Pos} {x1 : Nat} {e it l : Addr} {items : Array Value}
    (hx : env.kindOf x = some .local) (hx₂ : env.kindOf x₂ = some .local) (hxx : x ≠ x₂)
    (hp : (env.scope.kind == .class || (env.scope.kind == .module && env.locals != env.globals)) = false)
    (hei : e ≠ it) (hle : l ≠ e) (hli : l ≠ it) (hC : env.locals ∉ [e, it, l]) :
    Src prog w A (.Tuple [.Name x px, .Name x₂ px₂] x1 pt) e env [e, it, l] [e, it] items.size (fun i m => ∃ v tk, items[i]? = some v ∧ m x = some (.int i tk) ∧ m x₂ = some v)
      (fun i h => (∃ old, IsEnum h e it ((i : Nat) : Int) old) ∧ h.IsListIter it l i ∧ IsSeq h l items) where
  sub := fun b hb => by simp at hb ⊢; rcases hb with h | h <;> simp [h]
  frame := fun i h h' st hk => by
    obtain ⟨⟨old, h1⟩, h2, h3⟩ := st
    exact ⟨⟨old, hk e (by simp) _ h1⟩, IsListIter.at' h2 (hk it (by simp)), h3.at (hk l (by simp))⟩
  live := fun i h st b hb => by
    obtain ⟨⟨old, h1⟩, ⟨o2, h2, _⟩, ⟨o3, _, h3, _⟩⟩ := st
    simp only [List.mem_cons, List.not_mem_nil, or_false] at hb
    rcases hb with rfl | rfl | rfl
    · exact ⟨_, h1⟩
    · exact ⟨_, h2⟩
    · exact ⟨_, h3⟩
  item := fun i s m E Qn Qs hi st hn hQ => by
    obtain ⟨⟨old, he⟩, hit, hl⟩ := st
    have hCe : env.locals ≠ e := fun h => hC (by simp [h])
    have hCi : env.locals ≠ it := fun h => hC (by simp [h])
    have hCl : env.locals ≠ l := fun h => hC (by simp [h])
    have hv : items[i]? = some items[i] := by simp [hi]
    have heH : e < s.heap.objs.size := Heap.lt_size he
    have hLH : env.locals < s.heap.objs.size := hn.lt
    have hlH := hl.lt
    obtain ⟨oi, hoi, _⟩ := id hit
    have hiH : it < s.heap.objs.size := Heap.lt_size hoi
    refine enumS_item he hit hl hv hei fun h₁ heo hit₁ ht₁ hz₁ hk₁ => ?_
    refine wpAny_letOwnedTupleGo_enum heo fun h₂ he₂ hs₂ => ?_
    replace hs₂ : Heap.SameBut e h₁ h₂ := hs₂
    have ht₂ : h₂.IsTuple s.heap.objs.size #[.int i s.toks, items[i]] := ⟨_, (hs₂.2 _ (Nat.ne_of_gt heH)).trans ht₁, rfl, _, rfl⟩
    have hn₂ : h₂.Ns env.locals m := (hn.at' fun o e => hk₁ _ o hCe hCi e).sameBut hs₂ hCe
    refine bind_two hh hx hx₂ hp ht₂ hn₂ fun h₃ tk₃ hn₃ hk₃ => ?_
    have up : ∀ b o, b ≠ env.locals → b ≠ e → b ≠ it → s.heap.get? b = some o → h₃.get? b = some o := fun b o h1 h2 h3 x => hk₃ b o h1 (hs₂.extBut b o h2 (hk₁ b o h2 h3 x))
    refine hQ h₃ tk₃ _ ⟨items[i], s.toks, hv, ?_, ?_⟩ hn₃ ⟨⟨_, hk₃ e _ (Ne.symm hCe) (by rw [show (((i + 1 : Nat)) : Int) = (i : Int) + 1 by push_cast; rfl]; exact he₂)⟩, ?_, ?_⟩ fun b o h1 h2 x => up b o h1 (fun h => h2 (by simp [h])) (fun h => h2 (by simp [h])) x
    · simp [hxx]
    · simp
    · exact IsListIter.at' hit₁ fun o x => hk₃ it o (Ne.symm hCi) (hs₂.extBut it o (Ne.symm hei) x)
    · exact hl.at fun o x => up l o (Ne.symm hCl) hle hli x
  done := fun s E Qn Qs st hQ => by
    obtain ⟨⟨old, he⟩, hit, hl⟩ := st
    refine enumS_end hh he hit hl (by simp) fun h' he' => hQ h' s.toks fun b o hb x => he' b o (fun h => hb (by simp [h])) x
  self := fun s Q E st hQ => by
    obtain ⟨⟨old, he⟩, hit, hl⟩ := st
    exact wpAny_pyIter_enum he hQ

theorem pyIter_listiter' {E : Value → Shared → Prop} {s : Shared} {it l : Addr} {i : Nat} {Q : Value → Shared → Prop} (hit : s.heap.IsListIter it l i) (h : Q (.ref it) s) : wpAny (model prog w) A (pyIter (.ref it)) Q E s := wpAny_pyIter_listiter hit h

theorem Src.pairList (hh : A.handled = none) {env : Env} {x x₂ : Str} {px px₂ pt : Pos} {x1 : Nat} {it l : Addr} {tups : List (Addr × Value × Value)} {items : Array Value} (hit0 : items.toList = tups.map fun q => Value.ref q.1)
    (hx : env.kindOf x = some .local) (hx₂ : env.kindOf x₂ = some .local) (hxx : x ≠ x₂)
    (hp : (env.scope.kind == .class || (env.scope.kind == .module && env.locals != env.globals)) = false)
    (hli : l ≠ it) (htI : ∀ q ∈ tups, q.1 ≠ it) (hC : env.locals ∉ it :: l :: tups.map (·.1)) :
    Src prog w A (.Tuple [.Name x px, .Name x₂ px₂] x1 pt) it env (it :: l :: tups.map (·.1)) [it] items.size (fun i m => ∃ q, tups[i]? = some q ∧ m x = some q.2.1 ∧ m x₂ = some q.2.2)
      (fun i h => h.IsListIter it l i ∧ IsSeq h l items ∧ ∀ q ∈ tups, h.IsTuple q.1 #[q.2.1, q.2.2]) where
  sub := fun b hb => by simp at hb ⊢; simp [hb]
  frame := fun i h h' st hk => by
    obtain ⟨h1, h2, h3⟩ := st
    refine ⟨IsListIter.at' h1 (hk it (by simp)), h2.at (hk l (by simp)), fun q hq => ?_⟩
    obtain ⟨o, ho, r⟩ := h3 q hq
    exact ⟨o, hk q.1 (by simp only [List.mem_cons]; exact .inr (.inr (List.mem_map_of_mem hq))) o ho, r⟩
  live := fun i h st b hb => by
    obtain ⟨⟨o2, h2, _⟩, ⟨o3, _, h3, _⟩, h4⟩ := st
    rcases List.mem_cons.mp hb with rfl | hb
    · exact ⟨_, h2⟩
    rcases List.mem_cons.mp hb with rfl | hb
    · exact ⟨_, h3⟩
    obtain ⟨q, hq, rfl⟩ := List.mem_map.mp hb
    obtain ⟨o, ho, _⟩ := h4 q hq
    exact ⟨o, ho⟩
  item := fun i s m E Qn Qs hi st hn hQ => by
    obtain ⟨hit, hl, htu⟩ := st
    have hCi : env.locals ≠ it := fun h => hC (by simp [h])
    have hCl : env.locals ≠ l := fun h => hC (by simp [h])
    have hlen : items.size = tups.length := by rw [← Array.length_toList, hit0, List.length_map]
    have hi' : i < tups.length := by omega
    have hv : items[i]? = some (.ref tups[i].1) := by
      rw [← Array.getElem?_toList, hit0, List.getElem?_map, List.getElem?_eq_getElem hi']; rfl
    have hmem : tups[i] ∈ tups := List.getElem_mem hi'
    refine nextS_item hit hl hv fun h₁ hit₁ hs₁ => ?_
    replace hs₁ : Heap.SameBut it s.heap h₁ := hs₁
    have hgo : wpAny (model prog w) A (letOwnedTupleGo (.Tuple [.Name x px, .Name x₂ px₂] x1 pt) (.ref it) (.ref tups[i].1)) (fun _ s₁' => s₁' = { s with heap := h₁ }) E { s with heap := h₁ } := by
      obtain ⟨o, ho, hc, hd⟩ := id hit₁
      unfold letOwnedTupleGo
      refine wpAny_bind (wpAny_load ho ?_)
      rw [hc, hd]
      exact wpAny_pure rfl
    refine wpAny_mono hgo (fun _ s₁' e => ?_) fun _ _ x => x
    subst e
    have htu₁ : h₁.IsTuple tups[i].1 #[tups[i].2.1, tups[i].2.2] := (htu _ hmem).extBut hs₁.extBut (htI _ hmem)
    refine bind_two hh hx hx₂ hp htu₁ (hn.sameBut hs₁ hCi) fun h₃ tk₃ hn₃ hk₃ => ?_
    have up : ∀ b o, b ≠ env.locals → b ≠ it → s.heap.get? b = some o → h₃.get? b = some o := fun b o h1 h2 x => hk₃ b o h1 (hs₁.extBut b o h2 x)
    refine hQ h₃ tk₃ _ ⟨tups[i], List.getElem?_eq_getElem hi', by simp [hxx], by simp⟩ hn₃ ⟨?_, ?_, fun q hq => ?_⟩ fun b o h1 h2 x => up b o h1 (fun h => h2 (by simp [h])) x
    · exact IsListIter.at' hit₁ fun o x => hk₃ it o (Ne.symm hCi) x
    · exact hl.at fun o x => up l o (Ne.symm hCl) hli x
    · obtain ⟨o, ho, r⟩ := htu q hq
      exact ⟨o, up q.1 o (fun h => hC (by simp only [List.mem_cons]; exact .inr (.inr (h ▸ List.mem_map_of_mem hq)))) (htI q hq) ho, r⟩
  done := fun s E Qn Qs st hQ => by
    obtain ⟨hit, hl, _⟩ := st
    exact nextS_end hh hit hl (by simp) fun h' he' => hQ h' s.toks fun b o hb x => he' b o (fun h => hb (by simp [h])) x
  self := fun s Q E st hQ => pyIter_listiter' st.1 hQ

theorem Src.single (hh : A.handled = none) {env : Env} {x : Str} {px : Pos} {it l : Addr} {items : Array Value}
    (hx : env.kindOf x = some .local)
    (hp : (env.scope.kind == .class || (env.scope.kind == .module && env.locals != env.globals)) = false)
    (hli : l ≠ it) (hC : env.locals ∉ [it, l]) :
    Src prog w A (.Name x px) it env [it, l] [it] items.size (fun i m => ∃ v, items[i]? = some v ∧ m x = some v)
      (fun i h => h.IsListIter it l i ∧ IsSeq h l items) where
  sub := fun b hb => by simp at hb ⊢; simp [hb]
  frame := fun i h h' st hk => ⟨IsListIter.at' st.1 (hk it (by simp)), st.2.at (hk l (by simp))⟩
  live := fun i h st b hb => by
    obtain ⟨⟨o2, h2, _⟩, ⟨o3, _, h3, _⟩⟩ := st
    simp only [List.mem_cons, List.not_mem_nil, or_false] at hb
    rcases hb with rfl | rfl
    · exact ⟨_, h2⟩
    · exact ⟨_, h3⟩
  item := fun i s m E Qn Qs hi st hn hQ => by
    obtain ⟨hit, hl⟩ := st
    have hCi : env.locals ≠ it := fun h => hC (by simp [h])
    have hCl : env.locals ≠ l := fun h => hC (by simp [h])
    have hv : items[i]? = some items[i] := by simp [hi]
    refine nextS_item hit hl hv fun h₁ hit₁ hs₁ => ?_
    replace hs₁ : Heap.SameBut it s.heap h₁ := hs₁
    refine wpAny_pure (wpAny_assign_Name (wpAny_storeName_local hx (hn.sameBut hs₁ hCi) (fun h₃ hn₃ hs₃ => ?_) hp))
    replace hs₃ : Heap.SameBut env.locals h₁ h₃ := hs₃
    refine hQ h₃ _ _ ⟨items[i], hv, by simp⟩ hn₃ ⟨?_, ?_⟩ fun b o h1 h2 x => hs₃.extBut b o h1 (hs₁.extBut b o (fun h => h2 (by simp [h])) x)
    · exact IsListIter.at' hit₁ fun o x => hs₃.extBut it o (Ne.symm hCi) x
    · exact hl.at fun o x => hs₃.extBut l o (Ne.symm hCl) (hs₁.extBut l o hli x)
  done := fun s E Qn Qs st hQ => by
    obtain ⟨hit, hl⟩ := st
    exact nextS_end hh hit hl (by simp) fun h' he' => hQ h' s.toks fun b o hb x => he' b o (fun h => hb (by simp [h])) x
  self := fun s Q E st hQ => pyIter_listiter' st.1 hQ
end
end Mine

set_option Elab.async false
namespace Mine
open PySem PySem.W PyProof.Rows
section
variable {prog : Program} {w : World} {A : Around} {E : Value → Shared → Prop} {env : Env}

theorem comp_src_eval {s : Shared} {elt iter target : PySem.Expr} {ifs : List PySem.Expr} {scope : Scope} {cl : List (Str × Addr)} {pos fpos : Pos} {use : Option (Value → Sem Unit)} {Q : Value → Shared → Prop}
    (hclos : closureFor scope env = pure cl) (hcell : ∀ y ∈ scope.names, y.2 ≠ .cell) (hkind : scope.kind = .function)
    (hnames : ∀ y ∈ scope.names, y.2 = .local → scope.names.lookup y.1 = some .local)
    (h : wpAny (model prog w) A (eval iter env) (fun xv s₁ => wpAny (model prog w) A (pyIter xv) (fun it s₂ =>
      ∃ (I : Addr) (fp wr : List Addr) (n : Nat) (B : Nat → (Str → Option Value) → Prop) (St : Nat → Heap → Prop) (p : Nat → Bool) (F : Addr → Addr → Nat → Heap → Value → Prop), it = .ref I ∧
      (∀ C, C ∉ fp → Src prog w A target I (compEnvC scope cl C env) fp wr n B St) ∧ n ≤ sizeLine ∧ St 0 s₂.heap ∧ (∀ b ∈ fp, b < s₂.heap.objs.size) ∧
      (∀ C D i h h' y, F C D i h y → (∀ b o, b ≠ C → b ∉ wr → b ≠ D → h.get? b = some o → h'.get? b = some o) → F C D i h' y) ∧
      (∀ C i s₃ m₃ E', i < n → B i m₃ → s₂.heap.objs.size ≤ C → s₃.heap.Ns C m₃ → (∀ b o, b ∉ wr → s₂.heap.get? b = some o → s₃.heap.get? b = some o) →
        wpAny (model prog w) A (forIn ifs true fun c r => if r = true then do let ok ← isTrue c (compEnvC scope cl C env) (eval c (compEnvC scope cl C env)); pure (ForInStep.yield ok) else pure (ForInStep.yield r))
          (fun ok s₄ => ok = p i ∧ Keeps s₃ s₄) E' s₃) ∧
      (∀ C D i s₃ m₃ E', i < n → B i m₃ → p i = true → s₂.heap.objs.size ≤ C → s₂.heap.objs.size ≤ D → C ≠ D → s₃.heap.Ns C m₃ → (∃ ys, s₃.heap.PlainList D ys) → (∀ b o, b ∉ wr → s₂.heap.get? b = some o → s₃.heap.get? b = some o) →
        wpAny (model prog w) A (eval elt (compEnvC scope cl C env)) (fun y s₄ => F C D i s₄.heap y ∧ Keeps s₃ s₄) E' s₃) ∧
      (∀ D C h' tk m' ys, s₂.heap.get? D = none → s₂.heap.get? C = none → D ≠ C → h'.Ns C m' → h'.PlainList D ys → Paired (fun i y => F C D i h' y) ((List.range n).filter p) ys.toList →
        (∀ b o, b ∉ wr → s₂.heap.get? b = some o → h'.get? b = some o) → compPost (model prog w) A E use Q (.ref D) C (.ok .next) { s₂ with heap := h', toks := tk })) E s₁) E s)
    (hs : ∀ x, foldedSetIterable iter env x = pure x := by intro _; rfl) :
    wpAny (model prog w) A (comprehension (.ListComp elt [⟨target, iter, ifs, 0⟩] scope pos) scope env fpos (newList []) false (eval iter env) use) Q E s := by
  refine wpAny_comprehension_free (use := use) rfl hs hclos hkind hnames (wpAny_mono h (fun xv s₁ h₁ => wpAny_mono h₁ (fun it s₂ h₂ => ?_) fun _ _ e => e) fun _ _ e => e)
  obtain ⟨I, fp, wr, n, B, St, p, F, rfl, W₀, hsz, hst, hfp, hF, htests, helt, hpost⟩ := h₂
  refine wpAny_newObj_type (wpAny_newFunctionEnv hcell (by intro y hy; simp at hy) (fun h₁ hns₁ hsb₁ => ?_) hkind)
  dsimp only at hns₁ hsb₁ ⊢
  generalize hH2 : s₂.heap.push { cls := .type "list", dict := none, data := .seq ([] : List Value).toArray } = H2 at hns₁ hsb₁ ⊢
  have hC : H2.objs.size = s₂.heap.objs.size + 1 := by rw [← hH2, Heap.size_push]
  have hDC : s₂.heap.objs.size ≠ H2.objs.size := by rw [hC]; exact Nat.ne_of_lt (Nat.lt_succ_self _)
  have hCle : s₂.heap.objs.size ≤ H2.objs.size := by rw [hC]; exact Nat.le_succ _
  have below : ∀ b, b < s₂.heap.objs.size → b ≠ H2.objs.size ∧ b ≠ s₂.heap.objs.size := fun b hb => ⟨by rw [hC]; exact Nat.ne_of_lt (Nat.lt_succ_of_lt hb), Nat.ne_of_lt hb⟩
  have hDf : s₂.heap.objs.size ∉ fp := fun hm => Nat.lt_irrefl _ (hfp _ hm)
  have hCf : H2.objs.size ∉ fp := fun hm => by have := hfp _ hm; rw [hC] at this; exact Nat.lt_irrefl _ (Nat.lt_of_succ_lt this)
  have W := W₀ _ hCf
  have old : ∀ b o, s₂.heap.get? b = some o → h₁.get? b = some o := fun b o e => hsb₁.extBut b o (below b (Heap.lt_size e)).1 (Heap.get?_push_of_some _ (hH2 ▸ Heap.get?_push_of_some _ e))
  have hacc : h₁.PlainList s₂.heap.objs.size #[] := ⟨_, hsb₁.extBut _ _ hDC (Heap.get?_push_of_some _ (hH2 ▸ Heap.get?_push_size _ rfl))⟩
  have hst₁ : St 0 h₁ := W.frame _ _ _ hst fun b _ o e => old b o e
  have fresh : ∀ a, s₂.heap.objs.size ≤ a → s₂.heap.get? a = none := fun a ha => by
    cases e : s₂.heap.get? a with
    | none => rfl
    | some o' => exact absurd (Heap.lt_size e) (Nat.not_lt.mpr ha)
  have loop : ∀ s₃ : Shared, s₃ = { s₂ with heap := h₁, toks := s₂.toks + ([] : List (Str × Value)).length } →
      codeAny (model prog w) A (.compLoop (.ListComp elt [⟨target, iter, ifs, 0⟩] scope pos) 0 (.ref I) (.ref s₂.heap.objs.size) (compEnvC scope cl H2.objs.size env))
        (compPost (model prog w) A E use Q (.ref s₂.heap.objs.size) H2.objs.size) s₃ := by
    rintro s₃ rfl
    have up : ∀ {hh : Heap}, (∀ b o, b ≠ H2.objs.size → b ∉ wr → b ≠ s₂.heap.objs.size → h₁.get? b = some o → hh.get? b = some o) → ∀ b o, b ∉ wr → s₂.heap.get? b = some o → hh.get? b = some o :=
      fun k b o hb e => k b o (below b (Heap.lt_size e)).1 hb (below b (Heap.lt_size e)).2 (old b o e)
    refine compLoop_src (cenv := compEnvC scope cl H2.objs.size env) W p (fun i h y => F H2.objs.size s₂.heap.objs.size i h y ∧ True) (fun i h h' y x k => ⟨hF _ _ _ _ _ _ x.1 k, trivial⟩) hDC hDf hCf hst₁ hacc hns₁ ?_ ?_ ?_ hsz
    · intro i s₄ m₂ E' hi hB hn hk
      exact htests _ i s₄ m₂ E' hi hB hCle hn (up hk)
    · intro i s₄ m₂ E' hi hB hp hn hD hk
      exact wpAny_mono (helt _ _ i s₄ m₂ E' hi hB hp hCle (Nat.le_refl _) (Ne.symm hDC) hn hD (up hk)) (fun y s₅ h₅ => ⟨⟨h₅.1, trivial⟩, h₅.2⟩) fun _ _ e => e
    · intro h' tk m' ys hn ha hP hk
      exact hpost _ _ h' tk m' ys (fresh _ (Nat.le_refl _)) (fresh _ hCle) hDC hn ha (Paired.imp (fun _ _ x => x.1) hP) (up hk)
  exact codeAny_compStart_list (loop _ rfl) (W.self _ _ _ hst₁ (loop _ rfl))
end
end Mine

set_option Elab.async false
namespace Mine
open PySem PySem.W PyProof.Rows

inductive RV where
  | str (x : Str)
  | int (k : Int)
  | tup (i : Int)
def RV.py : RV → PyData
  | .str x => .str x
  | .int k => .int k
  | .tup i => .tuple [.int i, .int 1, .int 2]
structure Row where
  code : Int
  val : RV
def Row.py (r : Row) : PyData := .tuple [.int r.code, r.val.py]

/-- what the law's rows are: under 1000 a text; a point under 1010 and there alone; texts that can be laid -/
structure Row.Ok (r : Row) : Prop where
  text : r.code = 1000 → ∃ x, r.val = .str x
  vert : r.code = 1010 → ∃ i, r.val = .tup i
  tup : ∀ i, r.val = .tup i → r.code = 1010
  lay : ∀ x, r.val = .str x → PyData.strOk x = true

abbrev tupO (vs : List Value) (n : Nat) : Obj := { cls := .type "tuple", data := .seq vs.toArray n }

def RVAt (H : Addr → Obj → Prop) : RV → Value → Prop
  | .str x, v => ∃ t, v = .str x t
  | .int k, v => ∃ t, v = .int k t
  | .tup i, v => ∃ a n t t1 t2, v = .ref a ∧ H a (tupO [.int i t, .int 1 t1, .int 2 t2] n)
def RowAt (H : Addr → Obj → Prop) (r : Row) (a : Addr) (c u : Value) : Prop := ∃ n t, c = .int r.code t ∧ H a (tupO [c, u] n) ∧ RVAt H r.val u

theorem RVAt.mono {H H' : Addr → Obj → Prop} (k : ∀ a o, H a o → H' a o) : ∀ {r : RV} {v : Value}, RVAt H r v → RVAt H' r v
  | .str _, _, h => h
  | .int _, _, h => h
  | .tup _, _, ⟨a, n, t, t1, t2, e, h⟩ => ⟨a, n, t, t1, t2, e, k _ _ h⟩
theorem RowAt.mono {H H' : Addr → Obj → Prop} (k : ∀ a o, H a o → H' a o) {r : Row} {a : Addr} {c u : Value} : RowAt H r a c u → RowAt H' r a c u
  | ⟨n, t, e, h, x⟩ => ⟨n, t, e, k _ _ h, x.mono k⟩

abbrev In (h : Heap) : Addr → Obj → Prop := fun a o => h.get? a = some o
abbrev InZ (Z : List (Addr × Obj)) : Addr → Obj → Prop := fun a o => (a, o) ∈ Z

theorem RVAt.reads {h : Heap} : ∀ {r : RV} {v : Value}, RVAt (In h) r v → Reads h v r.py []
  | .str x, _, ⟨t, e⟩ => by subst e; exact Reads.str x t
  | .int k, _, ⟨t, e⟩ => by subst e; exact Reads.int k t
  | .tup i, _, ⟨a, n, t, t1, t2, e, h⟩ => by
    subst e
    exact Reads.tuple h rfl rfl (by
      show ReadsAll _ [.int i t, .int 1 t1, .int 2 t2] [.int i, .int 1, .int 2] []
      exact ReadsAll.cons (as := []) (bs := []) (Reads.int _ _) (ReadsAll.cons (as := []) (bs := []) (Reads.int _ _) (ReadsAll.cons (as := []) (bs := []) (Reads.int _ _) ReadsAll.nil)))
theorem RowAt.reads {h : Heap} {r : Row} {a : Addr} {c u : Value} (x : RowAt (In h) r a c u) : Reads h (.ref a) r.py [] := by
  obtain ⟨n, t, rfl, h1, h2⟩ := x
  exact Reads.tuple h1 rfl rfl (by
    show ReadsAll _ [.int r.code t, u] [.int r.code, r.val.py] []
    exact ReadsAll.cons (as := []) (bs := []) (Reads.int _ _) (ReadsAll.cons (as := []) (bs := []) h2.reads ReadsAll.nil))

theorem shaped_of_canLay {d : PyData} (h : d.canLay0 = true) (h2 : d.depth ≤ 64) : SeqAt.shaped d = true := by
  unfold SeqAt.shaped; rw [h, decide_eq_true h2]; rfl
theorem RV.canLay {r : RV} (h : ∀ x, r = .str x → PyData.strOk x = true) : r.py.canLay0 = true := by
  cases r with
  | str x => simpa [RV.py, PyData.canLay0] using h x rfl
  | int k => rfl
  | tup i => rfl
theorem RV.depth (r : RV) : r.py.depth ≤ 1 := by cases r <;> simp [RV.py, PyData.depth, PyData.depthAll]
theorem Row.shaped {r : Row} (h : r.Ok) : SeqAt.shaped r.py = true := by
  refine shaped_of_canLay ?_ ?_
  · show PyData.canLayAll0 [.int r.code, r.val.py] = true
    simp only [PyData.canLayAll0, RV.canLay h.lay, PyData.canLay0]; rfl
  · have := RV.depth r.val
    show PyData.depth (.tuple [.int r.code, r.val.py]) ≤ 64
    simp only [PyData.depth, PyData.depthAll]; omega
end Mine

set_option Elab.async false
namespace Mine
open PySem PySem.W PyProof.Rows

/-- what stands at the named places -/
def ownL (h : Heap) (as : List Addr) : List (Addr × Obj) := as.filterMap fun a => (h.get? a).map fun o => (a, o)
theorem ownL_mem {h : Heap} {as : List Addr} {q : Addr × Obj} : q ∈ ownL h as ↔ q.1 ∈ as ∧ h.get? q.1 = some q.2 := by
  obtain ⟨a, o⟩ := q
  simp only [ownL, List.mem_filterMap, Option.map_eq_some_iff, Prod.mk.injEq]
  constructor
  · rintro ⟨b, hb, o', ho, rfl, rfl⟩; exact ⟨hb, ho⟩
  · rintro ⟨ha, ho⟩; exact ⟨a, ha, o, ho, rfl, rfl⟩

section
variable {prog : Program} {w : World} {A : Around} {R : Result → Shared → Prop} {s : Shared} {g : Heap} {L : Addr} {m : Str → Option Value} {news : List (Addr × Obj)}

/-- a test's or an element's end: the ledger stands -/
abbrev KEnd (g : Heap) (L : Addr) (m : Str → Option Value) (Z : List (Addr × Obj)) (s s' : Shared) : Prop := ∃ h' tk, s' = { s with heap := h', toks := tk } ∧ Fr g L h' m ∧ News g L h' Z
abbrev KElt (g : Heap) (L : Addr) (m : Str → Option Value) (C D : Addr) (wr : List Addr) (own nw news : List (Addr × Obj)) (G : List (Addr × Obj) → Prop) (s s' : Shared) : Prop :=
  ∃ h' tk new, s' = { s with heap := h', toks := tk } ∧ Fr g L h' m ∧ News g L h' (own ++ ((new ++ nw) ++ news)) ∧ (∀ q ∈ new, q.1 ≠ C ∧ q.1 ≠ D ∧ q.1 ∉ wr) ∧ G (new ++ nw)

theorem compLoop_k {elt iter target : PySem.Expr} {ifs : List PySem.Expr} {scope : Scope} {pos : Pos} {I D : Addr} {fp wr : List Addr} {n : Nat} {B : Nat → (Str → Option Value) → Prop} {St : Nat → Heap → Prop}
    {cenv : Env} {mC : Str → Option Value} (W : Src prog w A target I cenv fp wr n B St) (p : Nat → Bool) (Inv : Nat → List Value → List (Addr × Obj) → Prop)
    (hskip : ∀ i ys nw, i < n → p i = false → Inv i ys nw → Inv (i + 1) ys nw) (hlen : ∀ i ys nw, Inv i ys nw → ys.length ≤ i)
    (hDC : D ≠ cenv.locals) (hDf : D ∉ fp) (hCf : cenv.locals ∉ fp)
    (hfr : ∀ b ∈ cenv.locals :: D :: fp, g.get? b = none ∧ b ≠ L) (hoff : ∀ q ∈ news, q.1 ≠ cenv.locals ∧ q.1 ≠ D ∧ q.1 ∉ wr)
    (hst : St 0 s.heap) (hacc : s.heap.PlainList D #[]) (hn : s.heap.Ns cenv.locals mC) (F : Fr g L s.heap m) (N : News g L s.heap news) (h0 : Inv 0 [] [])
    (htests : ∀ i oC own nw s₂ m₂ E', i < n → B i m₂ → LCg.NsObj oC m₂ → Fr g L s₂.heap m → News g L s₂.heap ((cenv.locals, oC) :: (own ++ (nw ++ news))) →
      wpAny (model prog w) A (forIn ifs true fun c r => if r = true then do let ok ← isTrue c cenv (eval c cenv); pure (ForInStep.yield ok) else pure (ForInStep.yield r))
        (fun ok s₃ => ok = p i ∧ KEnd g L m ((cenv.locals, oC) :: (own ++ (nw ++ news))) s₂ s₃) E' s₂)
    (helt : ∀ i ys oC own nw s₂ m₂ E', i < n → B i m₂ → p i = true → Inv i ys nw → LCg.NsObj oC m₂ → Fr g L s₂.heap m → News g L s₂.heap ((cenv.locals, oC) :: (own ++ (nw ++ news))) → (∀ b ∈ D :: wr, ∃ o, (b, o) ∈ own) →
      wpAny (model prog w) A (eval elt cenv) (fun y s₃ => KElt g L m cenv.locals D wr ((cenv.locals, oC) :: own) nw news (Inv (i + 1) (ys ++ [y])) s₂ s₃) E' s₂)
    (hR : ∀ h' tk m' ys nw, h'.Ns cenv.locals m' → h'.PlainList D (List.toArray ys) → Inv n ys nw → Fr g L h' m → News g L h' (nw ++ news) → (∀ q ∈ nw, q.1 ≠ cenv.locals ∧ q.1 ≠ D) → R (.ok .next) { s with heap := h', toks := tk })
    (hsz : n ≤ sizeLine) :
    codeAny (model prog w) A (.compLoop (.ListComp elt [⟨target, iter, ifs, 0⟩] scope pos) 0 (.ref I) (.ref D) cenv) R s := by
  refine compLoopD
    (fun k s' => ∃ h' tk m' ys nw i, s' = { s with heap := h', toks := tk } ∧ St i h' ∧ h'.PlainList D (List.toArray ys) ∧ h'.Ns cenv.locals m' ∧
      Inv i ys nw ∧ i ≤ n ∧ k = n + 1 - i ∧ Fr g L h' m ∧ News g L h' (nw ++ news) ∧ (∀ q ∈ nw, q.1 ≠ cenv.locals ∧ q.1 ≠ D ∧ q.1 ∉ wr)) ?_ (n + 1)
    ⟨s.heap, s.toks, mC, [], [], 0, rfl, hst, hacc, hn, h0, Nat.zero_le _, rfl, F, N, fun _ h => nomatch h⟩
  rintro k s' ⟨H, tk, m', ys, nw, i, rfl, hst', hacc', hn', hI, hi, rfl, F', N', hnw⟩
  have hCw : cenv.locals ∉ wr := fun h => hCf (W.sub _ h)
  have hDw : D ∉ wr := fun h => hDf (W.sub _ h)
  have hCg := hfr cenv.locals (by simp)
  have hDg := hfr D (by simp)
  have hwg : ∀ b ∈ wr, g.get? b = none ∧ b ≠ L := fun b hb => hfr b (List.mem_cons_of_mem _ (List.mem_cons_of_mem _ (W.sub b hb)))
  have hoffs : ∀ q ∈ nw ++ news, q.1 ≠ cenv.locals ∧ q.1 ≠ D ∧ q.1 ∉ wr := fun q hq => (List.mem_append.mp hq).elim (hnw q) (hoff q)
  -- a heap that stands but at the block's own places
  have F_of : ∀ {h h' : Heap}, Fr g L h m → (∀ b o, b ≠ cenv.locals → b ∉ wr → h.get? b = some o → h'.get? b = some o) → Fr g L h' m := fun F k =>
    ⟨F.ns.at' fun o e => k L o (Ne.symm hCg.2) (fun hm => (hwg L hm).2 rfl) e, fun b o e => k b o (fun q => by rw [q, hCg.1] at e; cases e) (fun hm => by rw [(hwg b hm).1] at e; cases e) (F.keep b o e), F.above⟩
  by_cases hlt : i < n
  · refine W.item i _ m' _ _ _ hlt hst' hn' fun h₂ tk₂ m₂ hB hn₂ hst₂ hk₂ => ?_
    have F₂ := F_of F' hk₂
    have N₂ : News g L h₂ (nw ++ news) := fun q hq => ⟨hk₂ _ _ (hoffs q hq).1 (hoffs q hq).2.2 (N' q hq).1, (N' q hq).2⟩
    have hacc₂ : h₂.PlainList D (List.toArray ys) := hacc'.at fun o e => hk₂ D o hDC hDw e
    obtain ⟨oC, hoC, hNo⟩ := LCg.ns_obj hn₂
    obtain ⟨nD, hoD⟩ := hacc₂
    have N₂' : News g L h₂ ((cenv.locals, oC) :: (ownL h₂ (D :: fp) ++ (nw ++ news))) := fun q hq => by
      rcases List.mem_cons.mp hq with rfl | hq
      · exact ⟨hoC, hCg.2, hCg.1⟩
      rcases List.mem_append.mp hq with hq | hq
      · have z := ownL_mem.mp hq
        have y := hfr q.1 (List.mem_cons_of_mem _ z.1)
        exact ⟨z.2, y.2, y.1⟩
      · exact N₂ q hq
    have St_of : ∀ {h' : Heap} {X : List (Addr × Obj)}, News g L h' ((cenv.locals, oC) :: (ownL h₂ (D :: fp) ++ X)) → St (i + 1) h' ∧ h'.Ns cenv.locals m₂ ∧ h'.PlainList D (List.toArray ys) := fun {h' X} Nx =>
      ⟨W.frame _ _ _ hst₂ fun b hb o e => (Nx (b, o) (List.mem_cons_of_mem _ (List.mem_append_left _ (ownL_mem.mpr ⟨List.mem_cons_of_mem _ hb, e⟩)))).1,
       hNo.ns (Nx (cenv.locals, oC) (.head _)).1, ⟨nD, (Nx (D, _) (List.mem_cons_of_mem _ (List.mem_append_left _ (ownL_mem.mpr ⟨.head _, hoD⟩)))).1⟩⟩
    refine wpAny_mono (htests i oC (ownL h₂ (D :: fp)) nw _ m₂ _ hlt hB hNo F₂ N₂') (fun ok s₃ h₃ => ?_) fun _ _ e => e
    obtain ⟨rfl, h₃, tk₃, rfl, F₃, N₃⟩ := h₃
    obtain ⟨hst₃, hn₃, hacc₃⟩ := St_of N₃
    cases hpv : p i with
    | false =>
      simp only [Bool.false_eq_true, if_false]
      exact ⟨n + 1 - (i + 1), by omega, h₃, tk₃, _, ys, nw, i + 1, rfl, hst₃, hacc₃, hn₃, hskip _ _ _ hlt hpv hI, hlt, rfl, F₃,
        fun q hq => N₃ q (List.mem_cons_of_mem _ (List.mem_append_right _ hq)), hnw⟩
    | true =>
      simp only [if_true]
      have hbl : ∀ b ∈ D :: wr, ∃ o, (b, o) ∈ ownL h₂ (D :: fp) := fun b hb => by
        rcases List.mem_cons.mp hb with rfl | hb
        · exact ⟨_, ownL_mem.mpr ⟨.head _, hoD⟩⟩
        · obtain ⟨o, e⟩ := W.live _ _ hst₂ b (W.sub b hb); exact ⟨o, ownL_mem.mpr ⟨List.mem_cons_of_mem _ (W.sub b hb), e⟩⟩
      refine wpAny_mono (helt i ys oC (ownL h₂ (D :: fp)) nw _ m₂ _ hlt hB hpv hI hNo F₃ N₃ hbl) (fun y s₄ h₄ => ?_) fun _ _ e => e
      obtain ⟨h₄, tk₄, new, rfl, F₄, N₄, hnew, hI₄⟩ := h₄
      rw [List.cons_append] at N₄
      obtain ⟨hst₄, hn₄, hacc₄⟩ := St_of N₄
      have hys : ys.length ≤ sizeLine := Nat.le_trans (hlen _ _ _ hI) (Nat.le_trans hi hsz)
      refine wpAny_list_append_plain (hsz := by simpa using hys) hacc₄ fun h₅ hl₅ hs₅ => ?_
      have hoffs₄ : ∀ q ∈ (new ++ nw) ++ news, q.1 ≠ D := fun q hq => by
        rcases List.mem_append.mp hq with hq | hq
        · rcases List.mem_append.mp hq with hq | hq
          · exact (hnew q hq).2.1
          · exact (hnw q hq).2.1
        · exact (hoff q hq).2.1
      refine ⟨n + 1 - (i + 1), by omega, h₅, tk₄, _, ys ++ [y], new ++ nw, i + 1, rfl, ?_, by simpa using hl₅, hn₄.sameBut hs₅ (Ne.symm hDC), hI₄, hlt, rfl, ?_, fun q hq => ?_, fun q hq => ?_⟩
      · exact W.frame _ _ h₅ hst₄ fun b hb o e => hs₅.extBut b o (fun h => hDf (h ▸ hb)) e
      · exact F₄.change hs₅ hDg.2 hDg.1
      · have z := N₄ q (List.mem_cons_of_mem _ (List.mem_append_right _ hq))
        exact ⟨hs₅.extBut _ _ (hoffs₄ q hq) z.1, z.2⟩
      · exact (List.mem_append.mp hq).elim (hnew q) (hnw q)
  · obtain rfl : i = n := Nat.le_antisymm hi (Nat.not_lt.mp hlt)
    refine W.done _ _ _ _ hst' fun h₁ tk₁ hk₁ => ?_
    refine hR h₁ tk₁ m' ys nw (hn'.at' fun o e => hk₁ _ o hCw e) (hacc'.at fun o e => hk₁ _ o hDw e) hI (F_of F' fun b o _ h2 e => hk₁ b o h2 e) (fun q hq => ⟨hk₁ _ _ (hoffs q hq).2.2 (N' q hq).1, (N' q hq).2⟩) fun q hq => ⟨(hnw q hq).1, (hnw q hq).2.1⟩
end
end Mine

set_option Elab.async false
namespace Mine
open PySem PySem.W PyProof.Rows
section
variable {prog : Program} {w : World} {A : Around} {E : Value → Shared → Prop} {env : Env} {s : Shared} {g : Heap} {L : Addr} {m : Str → Option Value}

abbrev lstO (ys : List Value) (n : Nat) : Obj := { cls := .type "list", data := .seq (List.toArray ys) n }

/-- what a comprehension over a source asks behind its iterator -/
structure CompK (prog : Program) (w : World) (A : Around) (E : Value → Shared → Prop) (env : Env) (g : Heap) (L : Addr) (m : Str → Option Value) (elt target : PySem.Expr) (ifs : List PySem.Expr) (scope : Scope) (cl : List (Str × Addr)) (use : Option (Value → Sem Unit)) (Q : Value → Shared → Prop)
    (I : Addr) (fp wr : List Addr) (n : Nat) (B : Nat → (Str → Option Value) → Prop) (St : Nat → Heap → Prop) (p : Nat → Bool) (Inv : Nat → List Value → List (Addr × Obj) → Prop) (news : List (Addr × Obj)) (s₂ : Shared) : Prop where
  fr : Fr g L s₂.heap m
  nw : News g L s₂.heap news
  src : ∀ C, C ∉ fp → Src prog w A target I (compEnvC scope cl C env) fp wr n B St
  size : n ≤ sizeLine
  st : St 0 s₂.heap
  live : ∀ b ∈ fp, b < s₂.heap.objs.size
  fresh : ∀ b ∈ fp, g.get? b = none ∧ b ≠ L
  off : ∀ q ∈ news, q.1 ∉ wr
  skip : ∀ i ys nw, i < n → p i = false → Inv i ys nw → Inv (i + 1) ys nw
  len : ∀ i ys nw, Inv i ys nw → ys.length ≤ i
  zero : Inv 0 [] []
  tests : ∀ C i oC own nw s₃ m₃ E', i < n → B i m₃ → LCg.NsObj oC m₃ → Fr g L s₃.heap m → News g L s₃.heap ((C, oC) :: (own ++ (nw ++ news))) →
      wpAny (model prog w) A (forIn ifs true fun c r => if r = true then do let ok ← isTrue c (compEnvC scope cl C env) (eval c (compEnvC scope cl C env)); pure (ForInStep.yield ok) else pure (ForInStep.yield r))
        (fun ok s₄ => ok = p i ∧ KEnd g L m ((C, oC) :: (own ++ (nw ++ news))) s₃ s₄) E' s₃
  elt : ∀ C D i ys oC own nw s₃ m₃ E', i < n → B i m₃ → p i = true → Inv i ys nw → LCg.NsObj oC m₃ → Fr g L s₃.heap m → News g L s₃.heap ((C, oC) :: (own ++ (nw ++ news))) → (∀ b ∈ D :: wr, ∃ o, (b, o) ∈ own) →
      wpAny (model prog w) A (eval elt (compEnvC scope cl C env)) (fun y s₄ => KElt g L m C D wr ((C, oC) :: own) nw news (Inv (i + 1) (ys ++ [y])) s₃ s₄) E' s₃
  post : ∀ D C h' tk m' ys nw no, Fr g L h' m → News g L h' ((D, lstO ys no) :: (nw ++ news)) → Inv n ys nw → h'.Ns C m' → g.get? C = none → C ≠ L → C ≠ D → (∀ q ∈ nw ++ news, q.1 ≠ C ∧ q.1 ≠ D) →
      compPost (model prog w) A E use Q (.ref D) C (.ok .next) { s₂ with heap := h', toks := tk }

theorem comp_k_eval {elt iter target : PySem.Expr} {ifs : List PySem.Expr} {scope : Scope} {cl : List (Str × Addr)} {pos fpos : Pos} {use : Option (Value → Sem Unit)} {Q : Value → Shared → Prop}
    (hclos : closureFor scope env = pure cl) (hcell : ∀ y ∈ scope.names, y.2 ≠ .cell) (hkind : scope.kind = .function)
    (hnames : ∀ y ∈ scope.names, y.2 = .local → scope.names.lookup y.1 = some .local)
    (h : wpAny (model prog w) A (eval iter env) (fun xv s₁ => wpAny (model prog w) A (pyIter xv) (fun it s₂ =>
      ∃ (I : Addr) (fp wr : List Addr) (n : Nat) (B : Nat → (Str → Option Value) → Prop) (St : Nat → Heap → Prop) (p : Nat → Bool) (Inv : Nat → List Value → List (Addr × Obj) → Prop) (news : List (Addr × Obj)), it = .ref I ∧
        CompK prog w A E env g L m elt target ifs scope cl use Q I fp wr n B St p Inv news s₂) E s₁) E s)
    (hs : ∀ x, foldedSetIterable iter env x = pure x := by intro _; rfl) :
    wpAny (model prog w) A (comprehension (.ListComp elt [⟨target, iter, ifs, 0⟩] scope pos) scope env fpos (newList []) false (eval iter env) use) Q E s := by
  refine wpAny_comprehension_free (use := use) rfl hs hclos hkind hnames (wpAny_mono h (fun xv s₁ h₁ => wpAny_mono h₁ (fun it s₂ h₂ => ?_) fun _ _ e => e) fun _ _ e => e)
  obtain ⟨I, fp, wr, n, B, St, p, Inv, news, rfl, K⟩ := h₂
  have F := K.fr
  have N := K.nw
  refine wpAny_newObj_type (wpAny_newFunctionEnv hcell (by intro y hy; simp at hy) (fun h₁ hns₁ hsb₁ => ?_) hkind)
  dsimp only at hns₁ hsb₁ ⊢
  generalize hH2 : s₂.heap.push { cls := .type "list", dict := none, data := .seq ([] : List Value).toArray } = H2 at hns₁ hsb₁ ⊢
  have hC : H2.objs.size = s₂.heap.objs.size + 1 := by rw [← hH2, Heap.size_push]
  have hDC : s₂.heap.objs.size ≠ H2.objs.size := by rw [hC]; exact Nat.ne_of_lt (Nat.lt_succ_self _)
  have hCle : s₂.heap.objs.size ≤ H2.objs.size := by rw [hC]; exact Nat.le_succ _
  have below : ∀ b, b < s₂.heap.objs.size → b ≠ H2.objs.size ∧ b ≠ s₂.heap.objs.size := fun b hb => ⟨by rw [hC]; exact Nat.ne_of_lt (Nat.lt_succ_of_lt hb), Nat.ne_of_lt hb⟩
  have hfp : ∀ b ∈ fp, b < s₂.heap.objs.size := K.live
  have hDf : s₂.heap.objs.size ∉ fp := fun hm => Nat.lt_irrefl _ (hfp _ hm)
  have hCf : H2.objs.size ∉ fp := fun hm => by have := hfp _ hm; rw [hC] at this; exact Nat.lt_irrefl _ (Nat.lt_of_succ_lt this)
  have W := K.src _ hCf
  have old : ∀ b o, s₂.heap.get? b = some o → h₁.get? b = some o := fun b o e => hsb₁.extBut b o (below b (Heap.lt_size e)).1 (Heap.get?_push_of_some _ (hH2 ▸ Heap.get?_push_of_some _ e))
  have hacc : h₁.PlainList s₂.heap.objs.size #[] := ⟨_, hsb₁.extBut _ _ hDC (Heap.get?_push_of_some _ (hH2 ▸ Heap.get?_push_size _ rfl))⟩
  have hst₁ : St 0 h₁ := W.frame _ _ _ K.st fun b _ o e => old b o e
  have gfresh : ∀ a, s₂.heap.objs.size ≤ a → g.get? a = none := fun a ha => by
    cases e : g.get? a with
    | none => rfl
    | some o' => exact absurd (Heap.lt_size (F.keep _ _ e)) (Nat.not_lt.mpr ha)
  have hLlt : L < s₂.heap.objs.size := F.ns.lt
  have loop : ∀ s₃ : Shared, s₃ = { s₂ with heap := h₁, toks := s₂.toks + ([] : List (Str × Value)).length } →
      codeAny (model prog w) A (.compLoop (.ListComp elt [⟨target, iter, ifs, 0⟩] scope pos) 0 (.ref I) (.ref s₂.heap.objs.size) (compEnvC scope cl H2.objs.size env))
        (compPost (model prog w) A E use Q (.ref s₂.heap.objs.size) H2.objs.size) s₃ := by
    rintro s₃ rfl
    refine compLoop_k (cenv := compEnvC scope cl H2.objs.size env) W p Inv K.skip K.len hDC hDf hCf (fun b hb => ?_) (fun q hq => ⟨(below _ (Heap.lt_size (N q hq).1)).1, (below _ (Heap.lt_size (N q hq).1)).2, K.off q hq⟩) hst₁ hacc hns₁ (F.after old) (fun q hq => ⟨old _ _ (N q hq).1, (N q hq).2⟩) K.zero
      (fun i oC own nw s₄ m₂ E' hi hB hNo F' N' => K.tests _ i oC own nw s₄ m₂ E' hi hB hNo F' N') (fun i ys oC own nw s₄ m₂ E' hi hB hp hI hNo F' N' hb => K.elt _ _ i ys oC own nw s₄ m₂ E' hi hB hp hI hNo F' N' hb) ?_ K.size
    · rcases List.mem_cons.mp hb with rfl | hb
      · exact ⟨gfresh _ hCle, Nat.ne_of_gt (Nat.lt_of_lt_of_le hLlt hCle)⟩
      rcases List.mem_cons.mp hb with rfl | hb
      · exact ⟨gfresh _ (Nat.le_refl _), Nat.ne_of_gt hLlt⟩
      · exact K.fresh b hb
    · intro h' tk m' ys nw hn ha hI F' N' hnw
      obtain ⟨no, hno⟩ := ha
      refine K.post _ _ h' tk m' ys nw no F' (fun q hq => ?_) hI hn (gfresh _ hCle) (Nat.ne_of_gt (Nat.lt_of_lt_of_le hLlt hCle)) (Ne.symm hDC) (fun q hq => ?_)
      · rcases List.mem_cons.mp hq with rfl | hq
        · exact ⟨hno, Nat.ne_of_gt hLlt, gfresh _ (Nat.le_refl _)⟩
        · exact N' q hq
      · rcases List.mem_append.mp hq with hq | hq
        · exact hnw q hq
        · exact ⟨(below _ (Heap.lt_size (N q hq).1)).1, (below _ (Heap.lt_size (N q hq).1)).2⟩
  exact codeAny_compStart_list (loop _ rfl) (W.self _ _ _ hst₁ (loop _ rfl))

theorem assign_comp_used {y : Str} {py spos : Pos} {elt iter target : PySem.Expr} {ifs : List PySem.Expr} {scope : Scope} {pos : Pos} {Q : Flow → Shared → Prop}
    (hsw : swapsWith (.ListComp elt [⟨target, iter, ifs, 0⟩] scope pos) (some (.Name y py)) spos.line env = pure true)
    (h : wpAny (model prog w) A (comprehension (.ListComp elt [⟨target, iter, ifs, 0⟩] scope pos) scope env (firstIterPos [⟨target, iter, ifs, 0⟩] pos) (newList []) false (eval iter env) (some (assign (.Name y py) env))) (fun _ s' => Q .next s') E s) :
    wpAny (model prog w) A (exec (.Assign [.Name y py] (.ListComp elt [⟨target, iter, ifs, 0⟩] scope pos) spos) env) Q E s := by
  rw [exec_Assign_Name_used _ _ _ _ hsw]
  refine wpAny_bind (wpAny_standAt (wpAny_bind ?_))
  show wpAny _ A (do let _ ← comprehension (.ListComp elt [⟨target, iter, ifs, 0⟩] scope pos) scope env _ (newList []) false (eval iter env) (some (assign (.Name y py) env))) _ _ s
  exact wpAny_bind (wpAny_mono h (fun _ s' hq => wpAny_pure (wpAny_pure hq)) fun _ _ e => e)

/-- [k for k, row in enumerate(l) if c]: the places where c holds -/
theorem enum_comp {news : List (Addr × Obj)} {c iter : PySem.Expr} {x x₂ : Str} {px px₂ pt ep : Pos} {x1 : Nat} {scope : Scope} {cl : List (Str × Addr)} {pos fpos : Pos} {use : Option (Value → Sem Unit)} {Q : Value → Shared → Prop} {ra : Addr} {items : Array Value} (p : Nat → Bool)
    (hh : A.handled = none) (F : Fr g L s.heap m) (N : News g L s.heap news)
    (hl : IsSeq s.heap ra items) (hrag : g.get? ra = none ∧ ra ≠ L) (hsz : items.size ≤ sizeLine)
    (hclos : closureFor scope env = pure cl) (hcell : ∀ y ∈ scope.names, y.2 ≠ .cell) (hkind : scope.kind = .function)
    (hnames : ∀ y ∈ scope.names, y.2 = .local → scope.names.lookup y.1 = some .local)
    (hx : scope.names.lookup x = some .local) (hx₂ : scope.names.lookup x₂ = some .local) (hxx : x ≠ x₂) (hdb : (x == ("__debug__" : Str)) = false)
    (hiter : ∀ Q' : Value → Shared → Prop, (∀ e it h', IsEnum h' e it 0 .none → h'.IsListIter it ra 0 → s.heap.objs.size ≤ it → @LT.lt Nat _ it e → (∀ b o, s.heap.get? b = some o → h'.get? b = some o) → Q' (.ref e) { s with heap := h' }) → wpAny (model prog w) A (eval iter env) Q' E s)
    (htest : ∀ C oC own (i : Nat) v tk m₃ s₃ E', items[i]? = some v → LCg.NsObj oC m₃ → m₃ x = some (.int i tk) → m₃ x₂ = some v → Fr g L s₃.heap m → News g L s₃.heap ((C, oC) :: (own ++ news)) →
      wpAny (model prog w) A (isTrue c (compEnvC scope cl C env) (eval c (compEnvC scope cl C env))) (fun ok s₄ => ok = p i ∧ KEnd g L m ((C, oC) :: (own ++ news)) s₃ s₄) E' s₃)
    (hpost : ∀ D C h' tk m' ys no, Fr g L h' m → News g L h' ((D, lstO ys no) :: news) → IntsAre ys (((List.range items.size).filter p).map Int.ofNat) → h'.Ns C m' → g.get? C = none → C ≠ L → C ≠ D → (∀ q ∈ news, q.1 ≠ C ∧ q.1 ≠ D) →
      compPost (model prog w) A E use Q (.ref D) C (.ok .next) { s with heap := h', toks := tk })
    (hs : ∀ x, foldedSetIterable iter env x = pure x := by intro _; rfl) :
    wpAny (model prog w) A (comprehension (.ListComp (.Name x ep) [⟨.Tuple [.Name x px, .Name x₂ px₂] x1 pt, iter, [c], 0⟩] scope pos) scope env fpos (newList []) false (eval iter env) use) Q E s := by
  refine comp_k_eval (g := g) (L := L) (m := m) hclos hcell hkind hnames (hiter _ fun e it h' he hit hle hie hk => ?_) hs
  have hLlt : L < s.heap.objs.size := F.ns.lt
  have hlra : ra < s.heap.objs.size := hl.lt
  have gfresh : ∀ a, s.heap.objs.size ≤ a → g.get? a = none ∧ a ≠ L := fun a ha => ⟨by
    cases e : g.get? a with
    | none => rfl
    | some o' => exact absurd (Heap.lt_size (F.keep _ _ e)) (Nat.not_lt.mpr ha), Nat.ne_of_gt (Nat.lt_of_lt_of_le hLlt ha)⟩
  have hle' : s.heap.objs.size ≤ e := Nat.le_of_lt (Nat.lt_of_le_of_lt hle hie)
  refine wpAny_pyIter_enum he ⟨e, [e, it, ra], [e, it], items.size, (fun i m => ∃ v tk, items[i]? = some v ∧ m x = some (.int i tk) ∧ m x₂ = some v), (fun i h => (∃ old, IsEnum h e it ((i : Nat) : Int) old) ∧ h.IsListIter it ra i ∧ IsSeq h ra items), p, fun i ys nw => nw = [] ∧ IntsAre ys (((List.range i).filter p).map Int.ofNat), news, rfl, ?_⟩
  exact {
    fr := F.after hk
    nw := fun q hq => ⟨hk _ _ (N q hq).1, (N q hq).2⟩
    src := fun C hC => Src.enumPair (env := compEnvC scope cl C env) (A := A) hh (lookup_relabel_local hx) (lookup_relabel_local hx₂) hxx (by simp [compEnvC, relabel, hkind]) (Nat.ne_of_gt hie) (Nat.ne_of_lt (Nat.lt_trans (Nat.lt_of_lt_of_le hlra hle) hie)) (Nat.ne_of_lt (Nat.lt_of_lt_of_le hlra hle)) hC
    size := hsz
    st := ⟨⟨_, he⟩, hit, hl.at fun o x => hk _ o x⟩
    live := fun b hb => by
      obtain ⟨_, h2, _⟩ := id hit
      simp only [List.mem_cons, List.not_mem_nil, or_false] at hb
      show b < h'.objs.size
      rcases hb with rfl | rfl | rfl
      · exact Heap.lt_size he
      · exact Heap.lt_size h2
      · exact (hl.at fun o x => hk _ o x : IsSeq h' _ items).lt
    fresh := fun b hb => by
      simp only [List.mem_cons, List.not_mem_nil, or_false] at hb
      rcases hb with rfl | rfl | rfl
      · exact gfresh _ hle'
      · exact gfresh _ hle
      · exact hrag
    off := fun q hq hm => by
      have := Heap.lt_size (N q hq).1
      simp only [List.mem_cons, List.not_mem_nil, or_false] at hm
      rcases hm with e1 | e1
      · rw [e1] at this; exact absurd (Nat.lt_of_lt_of_le this hle') (Nat.lt_irrefl _)
      · rw [e1] at this; exact absurd (Nat.lt_of_lt_of_le this hle) (Nat.lt_irrefl _)
    skip := fun i ys nw _ hp h => ⟨h.1, by rw [range_filter_succ, hp]; simpa using h.2⟩
    len := fun i ys nw h => by
      have e1 := h.2.length
      rw [List.length_map] at e1
      have e2 : ((List.range i).filter p).length ≤ (List.range i).length := List.length_filter_le _ _
      rw [List.length_range] at e2
      omega
    zero := ⟨rfl, IntsAre.nil⟩
    tests := by
      rintro C i oC own nw s₃ m₃ E' hi ⟨v, tk, hv, h1, h2⟩ hNo F₃ N₃
      refine wpAny_tests_one (wpAny_mono (htest C oC (own ++ nw) i v tk m₃ s₃ E' hv hNo h1 h2 F₃ (by rw [List.append_assoc]; exact N₃)) (fun ok s₄ h => ?_) fun _ _ e => e)
      rw [List.append_assoc] at h
      exact h
    elt := by
      rintro C D i ys oC own nw s₃ m₃ E' hi ⟨v, tk, hv, h1, h2⟩ hp ⟨rfl, hI⟩ hNo F₃ N₃ hb
      refine ldVarK (hNo.ns (N₃ _ (.head _)).1) h1 ⟨s₃.heap, s₃.toks, [], rfl, F₃, by simpa using N₃, (fun _ h => nomatch h), rfl, ?_⟩ hkind (lookup_relabel_local hx) hdb
      rw [range_filter_succ, hp, List.map_append]
      exact IntsAre.append hI (IntsAre.cons _ _ IntsAre.nil)
    post := by
      rintro D C h₂ tk m' ys nw no F₂ N₂ ⟨rfl, hI⟩ hn hCg hCL hCD hoff
      exact hpost D C h₂ tk m' ys no F₂ N₂ hI hn hCg hCL hCD hoff }

theorem post_none {Q : Value → Shared → Prop} {D C : Addr} {h' : Heap} {tk : Nat} {m' : Str → Option Value} {Zs : List (Addr × Obj)} (F : Fr g L h' m) (N : News g L h' Zs) (hn : h'.Ns C m') (hCg : g.get? C = none) (hCL : C ≠ L) (off : ∀ q ∈ Zs, q.1 ≠ C)
    (k : ∀ h'', Fr g L h'' m → News g L h'' Zs → Q (.ref D) { s with heap := h'', toks := tk }) : compPost (model prog w) A E none Q (.ref D) C (.ok .next) { s with heap := h', toks := tk } :=
  ⟨m', hn, fun h'' hs => k h'' (F.change hs hCL hCg) fun q hq => ⟨hs.extBut _ _ (off q hq) (N q hq).1, (N q hq).2⟩⟩
theorem post_loc {Q : Value → Shared → Prop} {y : Str} {py : Pos} {D C : Addr} {h' : Heap} {tk : Nat} {m' : Str → Option Value} {Zs : List (Addr × Obj)} (hLe : env.locals = L) (hy : env.kindOf y = some .local) (hp : (env.scope.kind == .class || (env.scope.kind == .module && env.locals != env.globals)) = false)
    (F : Fr g L h' m) (N : News g L h' Zs) (hn : h'.Ns C m') (hCg : g.get? C = none) (hCL : C ≠ L) (off : ∀ q ∈ Zs, q.1 ≠ C)
    (k : ∀ h'' tk, Fr g L h'' (fun z => if z = y then some (.ref D) else m z) → News g L h'' Zs → Q .none { s with heap := h'', toks := tk }) :
    compPost (model prog w) A E (some (assign (.Name y py) env)) Q (.ref D) C (.ok .next) { s with heap := h', toks := tk } := by
  show wpAny _ A (assign (.Name y py) env (.ref D)) _ _ _
  subst hLe
  refine wpAny_assign_Name (wpAny_storeName_local hy F.ns (fun h₂ hn₂ hs₂ => ?_) hp)
  refine ⟨m', hn.sameBut hs₂ hCL, fun h₃ hs₃ => ?_⟩
  exact k h₃ _ ((F.set hn₂ hs₂).change hs₃ hCL hCg) fun q hq => ⟨hs₃.extBut _ _ (off q hq) (hs₂.extBut _ _ (N q hq).2.1 (N q hq).1), (N q hq).2⟩
end
end Mine

set_option Elab.async false
namespace Mine
open PySem PySem.W PyProof.Rows
theorem kfilled2 : (hd.heap_39 = hd.heap_39) → (PySem.Challenge.rw_vz0017_01 = PySem.Challenge.rw_vz0017_01) → True := by
  k_fill
  intros; trivial
local macro_rules | `(tactic| walk_at "stp") => `(tactic| first | (k_unfold; (try dsimp only)) | walk1 | (dsimp only; walk1))
local macro_rules | `(tactic| k_mem) => `(tactic| assumption)

def RowsZ (Z : List (Addr × Obj)) (rows : List Row) (vs : List Value) : Prop := Paired (fun r v => ∃ a c u, v = Value.ref a ∧ RowAt (InZ Z) r a c u) rows vs
def isT (x : Str) (r : Row) : Bool := PyData.eqv r.py (.tuple [.int 1000, .str x])
def isAt (rows : List Row) (x : Str) (i : Nat) : Bool := (rows[i]?).any (isT x)

theorem pairedGet {α β : Type} {F : α → β → Prop} : ∀ {l₁ : List α} {l₂ : List β} {i : Nat} {b : β}, Paired F l₁ l₂ → l₂[i]? = some b → ∃ a, l₁[i]? = some a ∧ F a b
  | _, _, _, _, .nil, h => by simp at h
  | _, _, 0, _, .cons x _, h => by simp at h; subst h; exact ⟨_, rfl, x⟩
  | _, _, i + 1, _, .cons _ t, h => by simpa using pairedGet t (by simpa using h)

theorem front2 {g h : Heap} {L : Addr} {x c1 c2 : Addr × Obj} {own Z : List (Addr × Obj)} (N : News g L h (x :: (own ++ (c1 :: c2 :: Z)))) : News g L h (x :: c1 :: c2 :: (own ++ Z)) := fun q hq => N q (by
  simp only [List.mem_cons, List.mem_append] at hq ⊢
  rcases hq with h | h | h | h | h <;> simp [h])
theorem back2 {g h : Heap} {L : Addr} {x c1 c2 : Addr × Obj} {own Z : List (Addr × Obj)} (N : News g L h (x :: c1 :: c2 :: (own ++ Z))) : News g L h (x :: (own ++ (c1 :: c2 :: Z))) := fun q hq => N q (by
  simp only [List.mem_cons, List.mem_append] at hq ⊢
  rcases hq with h | h | h | h | h <;> simp [h])
theorem one_front {g h : Heap} {L : Addr} {x : Addr × Obj} {Z Z' : List (Addr × Obj)} (N : News g L h (x :: Z')) (hs : ∀ q ∈ Z, q ∈ x :: Z') : News g L h ([x] ++ Z) := fun q hq => N q ((List.mem_cons.mp hq).elim (fun e => e ▸ .head _) (hs q))
theorem tailN {g h : Heap} {L : Addr} {x : Addr × Obj} {Z : List (Addr × Obj)} (N : News g L h (x :: Z)) : News g L h Z := fun q hq => N q (List.mem_cons_of_mem _ hq)

theorem front3 {g h : Heap} {L : Addr} {x c0 c1 c2 : Addr × Obj} {own Z : List (Addr × Obj)} (N : News g L h (x :: (own ++ (c0 :: c1 :: c2 :: Z)))) : News g L h (x :: c0 :: c1 :: c2 :: (own ++ Z)) := fun q hq => N q (by
  simp only [List.mem_cons, List.mem_append] at hq ⊢
  rcases hq with h | h | h | h | h | h <;> simp [h])
theorem back3 {g h : Heap} {L : Addr} {x c0 c1 c2 : Addr × Obj} {own Z : List (Addr × Obj)} (N : News g L h (x :: c0 :: c1 :: c2 :: (own ++ Z))) : News g L h (x :: (own ++ (c0 :: c1 :: c2 :: Z))) := fun q hq => N q (by
  simp only [List.mem_cons, List.mem_append] at hq ⊢
  rcases hq with h | h | h | h | h | h <;> simp [h])
def beginAt (rows : List Row) (x : Str) (E : List Int) (i : Nat) : Bool := isAt rows x i && (match E with | [] => true | e :: _ => decide ((i : Int) < e))

inductive Res where
  | nf
  | bad
  | at (b e : Int)
def ResAt (H : Addr → Obj → Prop) : Res → Value → Prop
  | .nf, v => ∃ t, v = .str (Str.ofString "not found") t
  | .bad, v => ∃ t, v = .str (Str.ofString "refused") t
  | .at b e, v => ∃ a n t t', v = .ref a ∧ H a (tupO [.int b t, .int e t'] n)
def endsOf (rows : List Row) (x : Str) : List Int := ((List.range rows.length).filter fun i => isAt rows x i).map Int.ofNat
def beginsOf (rows : List Row) (x : Str) (E : List Int) : List Int := ((List.range rows.length).filter fun i => beginAt rows x E i).map Int.ofNat
def resOf : List Int → List Int → Res
  | [], [] => .nf
  | e :: _, b :: bs => .at ((b :: bs).getD (-1 + ((b :: bs).length : Int)).toNat 0) (e + 1)
  | _, _ => .bad
def dueR (rows : List Row) (name : Str) : Res :=
  let E := endsOf rows (name ++ Str.ofString "_END")
  resOf E (beginsOf rows (name ++ Str.ofString "_BEGIN") E)

set_option maxRecDepth 100000 in
set_option maxHeartbeats 8000000 in
theorem due_call {w : World} {h₀ : Heap} {L : Addr} {m : Str → Option Value} {s : Shared} {Z : List (Addr × Obj)} {fa : Addr} {cd : Value} {mean : ExcName → Option Value} {mg mb : Str → Option Value}
  (B : Below callerA h₀ [] h₀) (F : Fr h₀ L s.heap m) (KX : (hd.heap_39 w.params).In h₀) (N : News h₀ L s.heap Z) (T : Top hd.view_39 lz mean mg mb h₀)
  {ra : Addr} {no : Nat} {vs : List Value} {rows : List Row} {name : Str} {tn : Tok} (hrl : (ra, ({ cls := .type "list", data := .seq vs.toArray no } : Obj)) ∈ Z)
  (hrows : RowsZ Z rows vs) (hok : ∀ r ∈ rows, r.Ok) (hlen : rows.length ≤ 40) (hname : name.length ≤ 16) (hkE : PyData.strOk (name ++ Str.ofString "_END") = true) (hkB : PyData.strOk (name ++ Str.ofString "_BEGIN") = true)
  {R : Result → Shared → Prop} (k : ∀ v h' tk Zn, Fr h₀ L h' m → News h₀ L h' (Zn ++ Z) → ResAt (InZ Zn) (dueR rows name) v → R (.ok (.ret v)) {s with heap := h', toks := tk}) :
  codeAny (model pw w) (A1 L fa cd) (.call (.ref 472) ⟨[.str name tn, .ref ra], []⟩) R s := by
  have hsz : vs.toArray.size ≤ sizeLine := by
    have := hrows.length
    rw [List.size_toArray, sizeLine_eq]; omega
  k_enter
  with_reducible rename Fr _ _ _ _ => F'
  with_reducible rename News _ _ _ _ => N'
  rename_i g' L' h' tk' FG' B' X' T' l1 o1 o2 d1 d2
  walk_at "stp"
  refine wpAny_Assign_Name ?_ (by with_unfolding_all rfl)
  rw [eval_ListComp]
  refine enum_comp (fun i => isAt rows (name ++ Str.ofString "_END") i) rfl F' N' (ra := ra) (items := vs.toArray) ?hl ?hrag hsz (by with_unfolding_all rfl) (by decide) rfl (by decide) rfl rfl (by decide) (by decide) ?iter ?test ?post
  case hl => exact ⟨_, _, N'.get (List.mem_cons_of_mem _ (List.mem_cons_of_mem _ hrl)), rfl⟩
  case hrag => exact ⟨N'.fresh (List.mem_cons_of_mem _ (List.mem_cons_of_mem _ hrl)), (N' _ (List.mem_cons_of_mem _ (List.mem_cons_of_mem _ hrl))).2.1⟩
  case iter =>
    intro Q' hQ'
    walk_at "stp"
    walk_at "stp"
    walk_at "stp"
    walk_at "stp"
    walk_at "stp"
    walk_at "stp"
    refine call_enumerate_list (l := ra) (items := vs.toArray) ?_ fun h' he hit hz hk => ?_
    · exact ⟨_, N'.get (List.mem_cons_of_mem _ (List.mem_cons_of_mem _ hrl)), rfl, _, rfl⟩
    · exact hQ' _ _ h' he hit (Nat.le_refl _) (Nat.lt_succ_self _) hk
  case test =>
    intro C oC own i v tk m₃ s₃ E' hv hNo h1 h2 F₃ N₃
    have N₄ := front2 N₃
    obtain ⟨r, hr, a, c, u, rfl, hra⟩ := pairedGet hrows (i := i) (by simpa using hv)
    clear N₃
    walk_at "stp"
    walk_at "stp"
    walk_at "stp"
    walk_at "stp"
    walk_at "stp"
    walk_at "stp"
    walk_at "stp"
    walk_at "stp"
    walk_at "stp"
    walk_at "stp"
    walk_at "stp"
    walk_at "stp"
    with_reducible rename News _ _ _ _ => N₅
    with_reducible rename Fr _ _ _ _ => F₅
    have hrd : Reads _ (.ref a) r.py [] := (hra.mono fun a o h => N₅.get (List.mem_cons_of_mem _ (List.mem_cons_of_mem _ (List.mem_cons_of_mem _ (List.mem_cons_of_mem _ (List.mem_append_right _ h)))))).reads
    refine eq_dataH hrd (reads_tuple_at (News.get N₅ (.head _)) rfl rfl (ReadsAll.cons (Reads.int _ _) (ReadsAll.cons (Reads.str _ _) ReadsAll.nil))) (Row.shaped (hok r (List.mem_of_getElem? hr))) (shaped_of_canLay (by simp [PyData.canLay0, PyData.canLayAll0, hkE]) (by simp [PyData.depth, PyData.depthAll])) (by ke_room) ?_
    walk_at "stp"
    exact ⟨by simp [isAt, hr, isT], _, _, rfl, F₅, back2 (tailN N₅)⟩
  case post =>
    intro D C h₂ tk₂ m₂ ys no₂ F₂ N₂ hI hn hCg hCL hCD off
    refine post_none F₂ N₂ hn hCg hCL (fun q hq => ?_) fun h₃ F₃ N₃ => ?_
    · rcases List.mem_cons.mp hq with rfl | hq
      · exact Ne.symm hCD
      · exact (off q hq).1
    refine storeX_C F₃ N₃ rfl (UpdF.tail (Ne.symm (off _ (.head _)).2) (UpdF.head fun q hq => ?_)) d1 (fun h₄ o1' F₄ N₄ d1' => ?_) rfl rfl
    · rcases List.mem_cons.mp hq with rfl | hq
      · exact Nat.ne_of_lt (Nat.lt_succ_self _)
      · exact Nat.ne_of_lt (Nat.lt_trans (l1 q hq) (Nat.lt_succ_of_lt (Nat.lt_succ_self _)))
    clear N' F' N₂ F₂ N₃ F₃ d1
    dsimp only
    walk_at "stp"
    refine assign_comp_used (by with_unfolding_all rfl) ?_
    have hra₄ : (ra, ({ cls := .type "list", data := .seq vs.toArray no } : Obj)) ∈ ((D, lstO ys no₂) :: (L' + 1 + 1, o1') :: (L' + 1, o2) :: Z) := List.mem_cons_of_mem _ (List.mem_cons_of_mem _ (List.mem_cons_of_mem _ hrl))
    generalize hE : ((List.range vs.toArray.size).filter fun i => isAt rows (name ++ Str.ofString "_END") i).map Int.ofNat = E at hI
    refine enum_comp (fun i => beginAt rows (name ++ Str.ofString "_BEGIN") E i) rfl F₄ N₄ (ra := ra) (items := vs.toArray) ⟨_, _, N₄.get hra₄, rfl⟩ ⟨N₄.fresh hra₄, (N₄ _ hra₄).2.1⟩ hsz (by with_unfolding_all rfl) (by decide) rfl (by decide) rfl rfl (by decide) (by decide) ?iter2 ?test2 ?post2
    case iter2 =>
      intro Q' hQ'
      walk_at "stp"
      walk_at "stp"
      walk_at "stp"
      walk_at "stp"
      walk_at "stp"
      walk_at "stp"
      refine call_enumerate_list (l := ra) (items := vs.toArray) ?_ fun h' he hit hz hk => ?_
      · exact ⟨_, N₄.get hra₄, rfl, _, rfl⟩
      · exact hQ' _ _ h' he hit (Nat.le_refl _) (Nat.lt_succ_self _) hk
    case test2 =>
      intro C oC own i v tk m₃ s₃ E' hv hNo h1 h2 F₅ N₅
      have N₆ := front3 N₅
      obtain ⟨r, hr, a, c, u, rfl, hra⟩ := pairedGet hrows (i := i) (by simpa using hv)
      clear N₅ N₄ F₄
      walk_at "stp"
      walk_at "stp"
      walk_at "stp"
      walk_at "stp"
      walk_at "stp"
      walk_at "stp"
      walk_at "stp"
      walk_at "stp"
      walk_at "stp"
      walk_at "stp"
      walk_at "stp"
      walk_at "stp"
      walk_at "stp"
      with_reducible rename News _ _ _ _ => N₅
      with_reducible rename Fr _ _ _ _ => F₆
      have hrd : Reads _ (.ref a) r.py [] := (hra.mono fun a o h => N₅.get (List.mem_cons_of_mem _ (List.mem_cons_of_mem _ (List.mem_cons_of_mem _ (List.mem_cons_of_mem _ (List.mem_cons_of_mem _ (List.mem_append_right _ h))))))).reads
      refine eq_dataH hrd (reads_tuple_at (News.get N₅ (.head _)) rfl rfl (ReadsAll.cons (Reads.int _ _) (ReadsAll.cons (Reads.str _ _) ReadsAll.nil))) (Row.shaped (hok r (List.mem_of_getElem? hr))) (shaped_of_canLay (by simp [PyData.canLay0, PyData.canLayAll0, hkB]) (by simp [PyData.depth, PyData.depthAll])) (by ke_room) ?_
      have hp : isAt rows (name ++ Str.ofString "_BEGIN") i = PyData.eqv r.py (.tuple [.int 1000, .str (name ++ Str.ofString "_BEGIN")]) := by simp [isAt, hr, isT]
      generalize PyData.eqv r.py (.tuple [.int 1000, .str (name ++ Str.ofString "_BEGIN")]) = b at hp ⊢
      cases b with
      | false =>
        repeat' (walk_at "stp")
        all_goals first
          | (simp_all [beginAt]; done)
          | ((with_reducible rename News _ _ _ _ => N₇); first | exact ⟨_, _, rfl, by assumption, back3 (tailN N₇)⟩ | exact back3 (tailN N₇) | assumption)
      | true =>
        cases hI with
        | nil =>
          repeat' (walk_at "stp")
          all_goals first
            | (simp_all [beginAt]; done)
            | ((with_reducible rename News _ _ _ _ => N₇); first | exact ⟨_, _, rfl, by assumption, back3 (tailN (tailN N₇))⟩ | exact back3 (tailN (tailN N₇)) | assumption)
        | cons e0 t0 hI' =>
          repeat' (walk_at "stp")
          all_goals first
            | (simp_all [beginAt]; done)
            | ((with_reducible rename News _ _ _ _ => N₇); first | exact ⟨_, _, rfl, by assumption, back3 (tailN (tailN N₇))⟩ | exact back3 (tailN (tailN N₇)) | assumption)
    case post2 =>
      intro D2 C2 h₅ tk₅ m₅ ys2 no5 F₅ N₅ hI2 hn5 hCg5 hCL5 hCD5 off5
      refine post_loc rfl rfl rfl F₅ N₅ hn5 hCg5 hCL5 (fun q hq => ?_) fun h₆ tk₆ F₆ N₆ => ?_
      · rcases List.mem_cons.mp hq with rfl | hq
        · exact Ne.symm hCD5
        · exact (off5 q hq).1
      clear F₅ N₅ hn5 F₄ N₄ hn
      dsimp only
      generalize hBg : ((List.range vs.toArray.size).filter fun i => beginAt rows (name ++ Str.ofString "_BEGIN") E i).map Int.ofNat = Bg at hI2
      have hdue : dueR rows name = resOf E Bg := by
        have hsize : vs.toArray.size = rows.length := by rw [List.size_toArray, hrows.length]
        unfold dueR endsOf beginsOf
        rw [hsize] at hE hBg
        simp only [hE, hBg]
      rw [hdue] at k
      clear hdue hE hBg
      cases hI with
      | nil =>
        cases hI2 with
        | nil =>
          repeat' (walk_at "stp")
          all_goals first
            | (exfalso; simp_all; done)
            | ((with_reducible rename Fr h₀ _ _ _ => kF); (with_reducible rename News h₀ _ _ _ => kN); refine k _ _ _ [] kF (fun q hq => kN q (by rw [List.nil_append] at hq; repeat (first | exact hq | apply List.mem_cons_of_mem))) ⟨_, rfl⟩)
            | ((with_reducible rename Fr h₀ _ _ _ => kF); (with_reducible rename News h₀ _ _ _ => kN); refine k _ _ _ [] kF (fun q hq => kN q ?_) ?_; (· rw [List.nil_append] at hq; repeat (first | exact hq | apply List.mem_cons_of_mem)); refine ⟨_, rfl⟩)
        | cons b0 tb hI2' =>
          repeat' (walk_at "stp")
          all_goals first
            | (exfalso; simp_all; done)
            | ((with_reducible rename Fr h₀ _ _ _ => kF); (with_reducible rename News h₀ _ _ _ => kN); refine k _ _ _ [] kF (fun q hq => kN q (by rw [List.nil_append] at hq; repeat (first | exact hq | apply List.mem_cons_of_mem))) ⟨_, rfl⟩)
            | ((with_reducible rename Fr h₀ _ _ _ => kF); (with_reducible rename News h₀ _ _ _ => kN); refine k _ _ _ [] kF (fun q hq => kN q ?_) ?_; (· rw [List.nil_append] at hq; repeat (first | exact hq | apply List.mem_cons_of_mem)); refine ⟨_, rfl⟩)
      | cons e0 t0 hI' =>
        cases hI2 with
        | nil =>
          repeat' (walk_at "stp")
          all_goals first
            | (exfalso; simp_all; done)
            | ((with_reducible rename Fr h₀ _ _ _ => kF); (with_reducible rename News h₀ _ _ _ => kN); refine k _ _ _ [] kF (fun q hq => kN q (by rw [List.nil_append] at hq; repeat (first | exact hq | apply List.mem_cons_of_mem))) ⟨_, rfl⟩)
            | ((with_reducible rename Fr h₀ _ _ _ => kF); (with_reducible rename News h₀ _ _ _ => kN); refine k _ _ _ [] kF (fun q hq => kN q ?_) ?_; (· rw [List.nil_append] at hq; repeat (first | exact hq | apply List.mem_cons_of_mem)); refine ⟨_, rfl⟩)
        | cons b0 tb hI2' =>
          repeat' (walk_at "stp")
          all_goals first
            | (exfalso; simp_all; done)
            | ((with_reducible rename Fr h₀ _ _ _ => kF); (with_reducible rename News h₀ _ _ _ => kN); refine k _ _ _ [] kF (fun q hq => kN q (by rw [List.nil_append] at hq; repeat (first | exact hq | apply List.mem_cons_of_mem))) ⟨_, rfl⟩)
            | ((with_reducible rename Fr h₀ _ _ _ => kF); (with_reducible rename News h₀ _ _ _ => kN); refine k _ _ _ [_] kF (one_front kN fun q hq => ?_) ⟨_, _, _, _, rfl, .head _⟩; repeat (first | exact hq | apply List.mem_cons_of_mem))
end Mine

set_option Elab.async false
namespace Mine
open PySem PySem.W PyProof.Rows
theorem kfilled3 : (hd.heap_39 = hd.heap_39) → (PySem.Challenge.rw_vz0017_01 = PySem.Challenge.rw_vz0017_01) → True := by
  k_fill
  intros; trivial
local macro_rules | `(tactic| walk_at "stp") => `(tactic| first | (k_unfold; (try dsimp only)) | walk1 | (dsimp only; walk1))
local macro_rules | `(tactic| k_mem) => `(tactic| assumption)
theorem ltZ_ne {Z : List (Addr × Obj)} {d x : Addr} (h : ∀ p ∈ Z, p.1 < d) (hx : @LE.le Nat _ d x) : ∀ p ∈ Z, p.1 ≠ x := fun p hp => Nat.ne_of_lt (Nat.lt_of_lt_of_le (h p hp) hx)
local macro_rules | `(tactic| k_all) => `(tactic| first | exact ltZ_ne (by assumption) (Nat.le_refl _) | exact ltZ_ne (by assumption) (Nat.le_of_lt (by assumption)))
abbrev tagO (C d : Addr) (c u : Value) : Obj := { cls := .ref C, dict := some d, slots := #[some c, some u] }
set_option maxRecDepth 100000 in
set_option maxHeartbeats 8000000 in
theorem tag_new {w : World} {h₀ : Heap} {L : Addr} {m : Str → Option Value} {s : Shared} {Z : List (Addr × Obj)} {fa : Addr} {cd : Value} {mean : ExcName → Option Value} {mg mb : Str → Option Value}
  (B : Below callerA h₀ [] h₀) (F : Fr h₀ L s.heap m) (KX : (hd.heap_39 w.params).In h₀) (N : News h₀ L s.heap Z) (T : Top hd.view_39 lz mean mg mb h₀)
  {c : Int} {tc : Tok} {u : Value} {Q : Value → Shared → Prop} {E : Value → Shared → Prop}
  (k : ∀ x d h' tk, Fr h₀ L h' m → News h₀ L h' ((x, tagO 149 d (.int c tc) u) :: (d, dictOf [] 0) :: Z) → (∀ p ∈ Z, p.1 < d) → @LT.lt Nat _ d x → Q (.ref x) { s with heap := h', toks := tk }) :
  wpAny (model pw w) (A1 L fa cd) (call (.ref 149) [.int c tc, u] []) Q E s := by
  repeat' (walk_at "stp")
  all_goals exact k _ _ _ _ (by assumption) (by assumption) (by assumption) (by assumption)

theorem super2 {prog : Program} {w : World} {A : Around} {E : Value → Shared → Prop} {s : Shared} {h₀ : Heap} {L : Addr} {m : Str → Option Value} {news : List (Addr × Obj)} {K : Frag} {x C D : Addr} {ox : Obj} {odx : Option Obj} {cdD : ClassData} {Q : Value → Shared → Prop}
    (F : Fr h₀ L s.heap m) (X₀ : K.In h₀) (N : News h₀ L s.heap news) (I : InstAt s.heap x ox C odx) (hD : clsIn K D = some cdD) (hsub : mroIn K C (.ref D) = some true)
    (h : ∀ so h', Fr h₀ L h' m → News h₀ L h' ((so, ks_superObj D x C) :: news) → (∀ p ∈ news, p.1 < so) → Q (.ref so) { s with heap := h' }) :
    wpAny (model prog w) A (call (.type "super") [.ref D, .ref x]) Q E s := by
  have X : K.In s.heap := X₀.keeps F.keep
  obtain ⟨hh, g, d, t, os⟩ := s
  obtain ⟨oD, hD1, hD2⟩ : ∃ oD, hh.get? D = some oD ∧ oD.data = .cls cdD := by
    unfold clsIn at hD
    split at hD
    · rename_i c d cd' sl ho
      cases hD
      exact ⟨_, X _ _ ho, rfl⟩
    · cases hD
  refine ks_wpAny_call_super hD1 hD2 I.at_ I.cls (fun c e => ?_) (looks_mroIn X hsub) (fun h' e k => ?_)
  · have := I.no
    unfold notCls at this
    rw [e] at this
    exact Bool.noConfusion this
  · obtain ⟨F', N', l'⟩ := ks_newsPush (s := ⟨hh, g, d, t, os⟩) F N rfl e k
    exact h _ _ F' N' l'
local macro_rules | `(tactic| walk_at "call type:super") => `(tactic| (k_here; k_dflt (refine' super2 ?k1 ?k2 ?k3 ?k4 ?k5 ?k6 ?_; (case k1 => k_asm); (case k2 => k_asm); (case k3 => k_asm); (case k4 => k_inst); (case k5 => k_is); (case k6 => k_is); k_whole); intro q' h' F' N' l1; (try k_lt l1)))
local macro_rules | `(tactic| walk_at "eval Name") => `(tactic| (k_here; k_dflt (refine' nameX_B (x := PySem.Str.ofString "super") (v := PySem.Value.type "super") ?F ?X ?T ?e ?v ?n ?_ ?a ?b; (case F => k_asm); (case X => k_asm); (case T => k_asm); (case a => rfl); (case b => rfl); (case e => k_is); (case v => decide +kernel); (case n => decide); k_whole)))

local macro_rules | `(tactic| walk_at "call type:tuple") => `(tactic| (k_here; (with_reducible show wpAny _ _ (call (Value.type _) [Value.ref _]) _ _ _); refine call_tuple_tup (News.isTup (by k_asm) (by k_mem)) ?_))

set_option maxRecDepth 100000 in
set_option maxHeartbeats 8000000 in
theorem vert_new {w : World} {h₀ : Heap} {L : Addr} {m : Str → Option Value} {s : Shared} {Z : List (Addr × Obj)} {fa : Addr} {cd : Value} {mean : ExcName → Option Value} {mg mb : Str → Option Value}
  (B : Below callerA h₀ [] h₀) (F : Fr h₀ L s.heap m) (KX : (hd.heap_39 w.params).In h₀) (N : News h₀ L s.heap Z) (T : Top hd.view_39 lz mean mg mb h₀)
  {c : Int} {tc : Tok} {a : Addr} {i1 i2 i3 : Int} {t1 t2 t3 : Tok} {n : Nat} (ha : (a, tupO [.int i1 t1, .int i2 t2, .int i3 t3] n) ∈ Z) {Q : Value → Shared → Prop} {E : Value → Shared → Prop}
  (k : ∀ x d h' tk, Fr h₀ L h' m → News h₀ L h' ((x, tagO 217 d (.int c tc) (.ref a)) :: (d, dictOf [] 0) :: Z) → (∀ p ∈ Z, p.1 < d) → @LT.lt Nat _ d x → Q (.ref x) { s with heap := h', toks := tk }) :
  wpAny (model pw w) (A1 L fa cd) (call (.ref 217) [.int c tc, .ref a] []) Q E s := by
  repeat' (walk_at "stp")
  (with_reducible rename News h₀ _ _ _ => kN)
  first
    | (refine k _ _ _ _ (by assumption) (fun q hq => kN q ?_) (by assumption) (by assumption); (rcases List.mem_cons.mp hq with h | hq; (· rw [h]; repeat (first | exact .head _ | apply List.mem_cons_of_mem)); rcases List.mem_cons.mp hq with h | hq; (· rw [h]; repeat (first | exact .head _ | apply List.mem_cons_of_mem)); repeat (first | exact hq | apply List.mem_cons_of_mem)))
    | exact (kN : False)
end Mine

set_option Elab.async false
namespace Mine
open PySem PySem.W PyProof.Rows PySem.Calls
theorem kfilled4 : (hd.heap_39 = hd.heap_39) → (PySem.Challenge.rw_vz0017_01 = PySem.Challenge.rw_vz0017_01) → True := by
  k_fill
  intros; trivial
local macro_rules | `(tactic| walk_at "stp") => `(tactic| first | (k_unfold; (try dsimp only)) | walk1 | (dsimp only; walk1))
local macro_rules | `(tactic| k_inst) => `(tactic| assumption)
local macro_rules | `(tactic| k_handed) => `(tactic| assumption)

section
variable {prog : Program} {w : World} {A : Around} {E : Value → Shared → Prop} {s : Shared} {K : Frag} {h₀ : Heap} {L x C : Addr} {m : Str → Option Value} {ox : Obj} {odd : Option Obj} {name : Str}
theorem InstAt.keeps' {h h' : Heap} (I : InstAt h x ox C odd) (k : ∀ b o, h.get? b = some o → h'.get? b = some o) : InstAt h' x ox C odd := by
  obtain ⟨h1, h2, h3, h4⟩ := I
  refine ⟨k _ _ h1, h2, h3, ?_⟩
  split at h4
  · exact k _ _ h4
  · trivial
  · exact h4.elim
theorem get_prop' {expr : Bool} {Q : Value → Shared → Prop} {p fget : Addr} {rest : List Value} {od : Obj} (F : Fr h₀ L s.heap m) (X₀ : K.In h₀) (I : InstAt s.heap x ox C (some od)) (hg : plainGet K C name = true) (hc : isClsIn K C = true)
    (ha : findIn K (.ref C) name = some (some (.ref p))) (hn : specialIn K (.ref p) "__get__" = some (some (.builtin "property.__get__"))) (ht : takesIn K (.ref p) = some true) (hp : recIn K p "property" = some (.ref fget :: rest))
    (h : codeAny (model prog w) A.in1 (.call (.ref fget) ⟨[.ref x], []⟩) (fun r s' => match r with | .ok (.ret v) => wpAny (model prog w) A (handedOut v) Q E s' | .ok _ => False | .error e => wpAny (model prog w) A (noteIf true (.ref x) (.str name s.toks) e) (fun _ s'' => E e s'') E s') { s with toks := s.toks + 1 }) :
    wpAny (model prog w) A (getAttr (.ref x) name expr) Q E s :=
  get_bind (X₀.keeps F.keep) I (plainGet_of hg).1 (findObj_data hc ha hn ht) (plainGet_of hg).2 (wpAny_call (prop_get (s := { s with toks := s.toks + 1 }) (X₀.keeps F.keep) hp h))

theorem enter_plain {R : Result → Shared → Prop} {name qual : Str} {params : Arguments} {body : List Stmt} {scope : Scope} {dV kV doc pm cdv ct oc : Value} {an od : Option Addr} {osl : Array (Option Value)} {f : Addr} {args : Args} {binds : List (Str × Value)}
    (hroom : A.depth < recursionLimit) (X : K.In s.heap) (hlim : s.heap.NoLimit)
    (ho : K.lookup f = some ⟨oc, od, .func (fnOf name qual params body scope dV kV doc pm an cdv ct), osl⟩) (hcd : codeIn K cdv qual = true)
    (hbind : BindsTo s (fnOf name qual params body scope dV kV doc pm an cdv ct) args binds) (hloc : ∀ y ∈ binds, scope.names.lookup y.1 = some .local)
    (h : ∀ h₁, Fr s.heap s.heap.objs.size h₁ (fun y => binds.reverse.lookup y) →
      wpAny (model prog w) (A.deeper (envOf qual scope s.heap.objs.size f cdv)) (execs body (envOf qual scope s.heap.objs.size f cdv))
        (fun fl s' => R (.ok (.ret (match fl with | .ret v => v | _ => .none))) s')
        (fun _ _ => False) { s with heap := h₁, toks := s.toks + binds.length })
    (hcell : ∀ x ∈ scope.names, x.2 ≠ .cell) (hco : scope.isCoroutine = false) (hgen : scope.isGenerator = false) (hk : scope.kind = .function) : codeAny (model prog w) A (.call (.ref f) args) R s := by
  refine codeAny_call_def (fd := fnOf name qual params body scope dV kV doc pm an cdv ct) (body := body) (binds := binds) hroom (X _ _ ho) rfl hlim (codeRec_of X hcd) rfl hbind hcell hloc (fun h₁ hns hk₁ => ?_) hco hgen hk
  exact wpAny_mono (h h₁ ⟨hns, hk₁, Nat.le_refl _⟩) (fun _ _ e => e) fun _ _ e => e.elim
theorem enter_gen {R : Result → Shared → Prop} {name qual : Str} {params : Arguments} {body : List Stmt} {scope : Scope} {dV kV doc pm cdv ct oc : Value} {an od : Option Addr} {osl : Array (Option Value)} {f : Addr} {args : Args} {binds : List (Str × Value)}
    (hroom : A.depth < recursionLimit) (X : K.In s.heap) (hlim : s.heap.NoLimit)
    (ho : K.lookup f = some ⟨oc, od, .func (fnOf name qual params body scope dV kV doc pm an cdv ct), osl⟩) (hcd : codeIn K cdv qual = true)
    (hbind : BindsTo s (fnOf name qual params body scope dV kV doc pm an cdv ct) args binds) (hloc : ∀ y ∈ binds, scope.names.lookup y.1 = some .local)
    (hcell : ∀ x ∈ scope.names, x.2 ≠ .cell) (hco : scope.isCoroutine = false) (hgen : scope.isGenerator = true) (hk : scope.kind = .function)
    (h : ∀ h₁ tk nm qn, Fr s.heap s.heap.objs.size h₁ (fun y => binds.reverse.lookup y) →
      R (.ok (.ret (.ref h₁.objs.size))) { s with gens := s.gens.push (.fresh (.func body (envOf qual scope s.heap.objs.size f cdv))), toks := tk, heap := h₁.push { cls := .type "generator", data := .fields #[.int s.gens.size 0, nm, qn] } }) : codeAny (model prog w) A (.call (.ref f) args) R s := by
  refine codeAny_call_generator (fd := fnOf name qual params body scope dV kV doc pm an cdv ct) (body := body) hroom (X _ _ ho) rfl hco hgen rfl (codeRec_of X hcd) (hbind _ _ _ _ ?_)
  refine wpAny_newFunctionEnv hcell hloc (fun h₀ hns₀ hsb₀ => ⟨hlim.fresh _ hsb₀, ?_⟩) hk
  exact h h₀ _ _ _ ⟨hns₀, fun b o e => hsb₀.extBut b o (Nat.ne_of_lt (Heap.lt_size e)) (Heap.get?_push_of_some _ e), Nat.le_refl _⟩
end

/-- the value of a tag, by its property -/
theorem value_tag {w : World} {A : Around} {s : Shared} {mean : ExcName → Option Value} {mg mb : Str → Option Value} {x d : Addr} {c u : Value} {R : Result → Shared → Prop}
    (hroom : A.depth < recursionLimit) (X : (hd.heap_39 w.params).In s.heap) (T : Top hd.view_39 lz mean mg mb s.heap) (I : InstAt s.heap x (tagO 149 d c u) 149 (some (dictOf [] 0))) (hh : handedIn u = true)
    (k : ∀ h' tk, (∀ b o, s.heap.get? b = some o → h'.get? b = some o) → R (.ok (.ret u)) { s with heap := h', toks := tk }) :
    codeAny (model pw w) A (.call (.ref 102) ⟨[.ref x], []⟩) R s := by
  refine' enter_plain hroom X T.nolimit ?ho ?hcd ?hb ?hl ?_ ?h1 ?h2 ?h3 ?h4
  case ho => k_is
  case hcd => k_is
  case hb => exact BindsTo.of_eq rfl
  case hl => exact locs rfl
  case h1 => decide
  case h2 => rfl
  case h3 => rfl
  case h4 => rfl
  intro h₁ F'
  have I' : InstAt h₁ x (tagO 149 d c u) 149 (some (dictOf [] 0)) := InstAt.keeps' I F'.keep
  have N' : News s.heap s.heap.objs.size h₁ [] := News.nil
  try dsimp only
  repeat' (walk_at "stp")
  all_goals exact k _ _ F'.keep

theorem value_vert {w : World} {A : Around} {s : Shared} {mean : ExcName → Option Value} {mg mb : Str → Option Value} {x d a : Addr} {c : Value} {items : Array Value} {R : Result → Shared → Prop}
    (hroom : A.depth < recursionLimit) (X : (hd.heap_39 w.params).In s.heap) (T : Top hd.view_39 lz mean mg mb s.heap) (I : InstAt s.heap x (tagO 217 d c (.ref a)) 217 (some (dictOf [] 0))) (ha : IsTup s.heap a items)
    (k : ∀ h' tk, (∀ b o, s.heap.get? b = some o → h'.get? b = some o) → R (.ok (.ret (.ref a))) { s with heap := h', toks := tk }) :
    codeAny (model pw w) A (.call (.ref 198) ⟨[.ref x], []⟩) R s := by
  refine' enter_plain hroom X T.nolimit ?ho ?hcd ?hb ?hl ?_ ?h1 ?h2 ?h3 ?h4
  case ho => k_is
  case hcd => k_is
  case hb => exact BindsTo.of_eq rfl
  case hl => exact locs rfl
  case h1 => decide
  case h2 => rfl
  case h3 => rfl
  case h4 => rfl
  intro h₁ F'
  have I' : InstAt h₁ x (tagO 217 d c (.ref a)) 217 (some (dictOf [] 0)) := InstAt.keeps' I F'.keep
  have N' : News s.heap s.heap.objs.size h₁ [] := News.nil
  have ha' : IsTup h₁ a items := by obtain ⟨o, ho, r⟩ := ha; exact ⟨o, F'.keep _ _ ho, r⟩
  have hh : handedIn (Value.ref a) = true := by first | rfl | simp [handedIn]
  try dsimp only
  repeat' (walk_at "stp")
  all_goals exact k _ _ F'.keep

/-- a generator's step by __next__, with what its state is -/
theorem pyNext_genQ {prog : Program} {w : World} {A : Around} {E : Value → Shared → Prop} {s : Shared} {a : Addr} {g n : Nat} {gs : GenState} {P : Nat → Shared → Shared → Prop} {Y : Protocol} {Q : Option Value → Shared → Prop} (hh : A.handled = none)
    (hl : s.heap.NoLimit) (hroom : A.depth < recursionLimit)
    (hg : s.heap.IsGen a g) (hgs : s.gens[g]? = some gs)
    (hgo : gs.Goes (model prog w) A.in1 (fun n s₀ r s₁ => r = .ok (.ret .none) ∧ P n s₀ s₁) Y n (.send .none) (s.setGen g .running))
    (hY : ∀ v s₁ gs', gs'.bare = true → Y (n - 1) (s.setGen g .running) v s₁ (fun r' s'' => match n with
        | 0 => False
        | m + 1 => gs'.Goes (model prog w) A.in1 (fun n s₀ r s₁ => r = .ok (.ret .none) ∧ P n s₀ s₁) Y m r' s'') → Q (some v) (s₁.setGen g gs'))
    (hP : ∀ s₁, P n (s.setGen g .running) s₁ → ∀ h', (∀ b o, s₁.heap.get? b = some o → h'.get? b = some o) → Q none { s₁.setGen g .finished with heap := h' }) :
    wpAny (model prog w) A (pyNext (.ref a)) Q E s := by
  unfold pyNext
  refine wpAny_bind (wpAny_attempt (wpAny_callSpecial?_slot (name := Str.ofString "__next__") hg.typeIs slot_gen_next
    (wpAny_call_entry slot_gen_next hg.typeIs entry_gen_next ?_ (args_gen_next _))))
  show wpAny _ A.in1 (Builtin.Generator.genWake (.ref a) (.send .none)) _ _ s
  unfold Builtin.Generator.genWake
  refine wpAny_bind (wpAny_holding (wpAny_genNumber hg (wpAny_bind (wpAny_genState hgs ?_))))
  cases gs with
  | running => exact hgo.elim
  | finished => exact hgo.elim
  | _ =>
    refine wpAny_bind (wpAny_roomToWake hl hroom ?_)
    show wpAny _ A.in1 (.resume g (.send .none) [] _) _ _ s
    refine wpAny_resumeQ hgs hgo (fun x s₁ hx => ?_) (fun v s₁ gs' hb hv => ?_)
    · obtain ⟨rfl, hp⟩ := hx
      show wpAny _ A.in1 (newExc (.type "StopIteration") [] >>= _) _ _ _
      refine wpAny_bind ?_
      simp only [newExc, newTuple]
      refine wpAny_bind (wpAny_newObj_type ?_ (by size_fits))
      refine wpAny_bind (m := firstArgMember _ _) (wpAny_of_eq (a := Value.none) (by first | rfl | (simp only [firstArgMember]; rfl)) ?_)
      refine wpAny_newObj_type ?_ (by size_fits)
      simp only [raiseNew]
      refine wpAny_bind (wpAny_bind (wpAny_handled ?_))
      first | rw [show A.in1.handled = none from hh] | rw [hh]
      refine wpAny_throw ?_
      refine wpAny_bind (wpAny_isInstance (T := "StopIteration") (b := true) ⟨_, Heap.get?_push_size _ rfl, rfl⟩ isSubtype_stop ?_)
      exact wpAny_pure (hP s₁ hp _ fun b o hb => Heap.get?_push_of_some _ (Heap.get?_push_of_some _ hb))
    · exact wpAny_pure ⟨v, rfl, wpAny_pure (hY v s₁ gs' hb hv)⟩

abbrev KeepH (h h' : Heap) : Prop := ∀ b o, h.get? b = some o → h'.get? b = some o
def nth (c u : Value) : Nat → Value
  | 1 => c
  | _ => u
def YY (hb : Heap) (c u : Value) : Protocol := fun n s₀ v s₁ kap => (∃ h₁ tk, s₁ = { s₀ with heap := h₁, toks := tk } ∧ KeepH s₀.heap h₁) ∧ v = nth c u n ∧ ∀ s'', KeepH hb s''.heap → kap (.send .none) s''
def PP : Nat → Shared → Shared → Prop := fun n s₀ s₁ => n = 0 ∧ ∃ h₁ tk, s₁ = { s₀ with heap := h₁, toks := tk } ∧ KeepH s₀.heap h₁
abbrev RR : GenEnd := fun n s₀ r s₁ => r = .ok (.ret .none) ∧ PP n s₀ s₁

theorem mem_set {a : Array GenState} {i : Nat} {y z : GenState} (h : z ∈ a.setIfInBounds i y) : z ∈ a ∨ z = y := Array.mem_or_eq_of_mem_setIfInBounds h

section
variable {prog : Program} {w : World} {A : Around} {E : Value → Shared → Prop} {s : Shared}
theorem draw_zero {it : Value} {Q : List Value → Shared → Prop} (h : Q [] s) : wpAny (model prog w) A (draw it 0) Q E s := wpAny_pure h
theorem draw_step {it : Value} {n : Nat} {Q : List Value → Shared → Prop} (h : wpAny (model prog w) A (pyNext it) (fun r s₁ => ∃ v, r = some v ∧ wpAny (model prog w) A (draw it n) (fun vs s₂ => Q (v :: vs) s₂) E s₁) E s) : wpAny (model prog w) A (draw it (n + 1)) Q E s := by
  show wpAny _ A (pyNext it >>= _) Q E s
  refine wpAny_bind (wpAny_mono h (fun r s₁ hr => ?_) fun _ _ e => e)
  obtain ⟨v, rfl, hr⟩ := hr
  exact wpAny_bind (wpAny_holding (wpAny_mono hr (fun vs s₂ h₂ => wpAny_pure h₂) fun _ _ e => e))

/-- where the generator of a tag stands -/
structure GAt (prog : Program) (w : World) (A : Around) (hb : Heap) (c u : Value) (gi n : Nat) (s₀ s : Shared) : Prop where
  frame : ∃ h tk gl, s = { s₀ with heap := h, toks := tk, gens := gl }
  keep : KeepH s₀.heap s.heap
  base : KeepH hb s.heap
  bare : (∀ y ∈ s₀.gens, y.bare = true) → ∀ y ∈ s.gens, y.bare = true
  at_ : ∃ gs, s.gens[gi]? = some gs ∧ ∀ s'', KeepH hb s''.heap → gs.Goes (model prog w) A.in1 RR (YY hb c u) n (.send .none) s''

theorem gat_next {hb : Heap} {c u : Value} {ga : Addr} {gi n : Nat} {s₀ : Shared} {Q : Option Value → Shared → Prop} (hh : A.handled = none) (hroom : A.depth < recursionLimit) (hlim : hb.NoLimit) (hg : hb.IsGen ga gi)
    (G : GAt prog w A hb c u gi (n + 1) s₀ s) (k : ∀ s', GAt prog w A hb c u gi n s₀ s' → Q (some (nth c u n)) s') : wpAny (model prog w) A (pyNext (.ref ga)) Q E s := by
  obtain ⟨⟨h, tk, gl, rfl⟩, hk, hbk, hbr, gs, hgs, hgo⟩ := G
  refine pyNext_genQ hh (hlim.keeps hbk) hroom (hg.keeps hbk) hgs (hgo _ hbk) (fun v s₁ gs' hbare hY => ?_) (fun s₁ hP _ _ => absurd hP.1 (by simp))
  obtain ⟨⟨h₁, tk₁, rfl, hk₁⟩, rfl, hgo₁⟩ := hY
  refine k _ ⟨⟨h₁, tk₁, _, rfl⟩, fun b o e => hk₁ b o (hk b o e), fun b o e => hk₁ b o (hbk b o e), fun h0 y hy => ?_, gs', setGen_self (gs := .running) (setGen_self hgs), hgo₁⟩
  rcases mem_set hy with hy | rfl
  · rcases mem_set hy with hy | rfl
    · exact hbr h0 y hy
    · rfl
  · exact hbare
theorem gat_end {hb : Heap} {c u : Value} {ga : Addr} {gi : Nat} {s₀ : Shared} {Q : Option Value → Shared → Prop} (hh : A.handled = none) (hroom : A.depth < recursionLimit) (hlim : hb.NoLimit) (hg : hb.IsGen ga gi)
    (G : GAt prog w A hb c u gi 0 s₀ s) (k : ∀ h tk gl, KeepH s₀.heap h → ((∀ y ∈ s₀.gens, y.bare = true) → ∀ y ∈ gl, y.bare = true) → Q none { s₀ with heap := h, toks := tk, gens := gl }) : wpAny (model prog w) A (pyNext (.ref ga)) Q E s := by
  obtain ⟨⟨h, tk, gl, rfl⟩, hk, hbk, hbr, gs, hgs, hgo⟩ := G
  refine pyNext_genQ hh (hlim.keeps hbk) hroom (hg.keeps hbk) hgs (hgo _ hbk) (fun v s₁ gs' hbare hY => ?_) (fun s₁ hP h' hk' => ?_)
  · obtain ⟨⟨h₁, tk₁, rfl, hk₁⟩, _, hno⟩ := hY
    exact (hno ⟨h₁, gl, s₀.drawn, tk₁, s₀.os⟩ fun b o e => hk₁ b o (hbk b o e)).elim
  · obtain ⟨_, h₁, tk₁, rfl, hk₁⟩ := hP
    refine k h' tk₁ _ (fun b o e => hk' b o (hk₁ b o (hk b o e))) fun h0 y hy => ?_
    rcases mem_set hy with hy | rfl
    · rcases mem_set hy with hy | rfl
      · exact hbr h0 y hy
      · rfl
    · rfl
theorem gat_bind {α : Type} {hb : Heap} (c u : Value) {ga : Addr} (gi : Nat) {K : List Value → Sem α} {Q : α → Shared → Prop} (hh : A.handled = none) (hroom : A.depth < recursionLimit) (hlim : hb.NoLimit) (hg : hb.IsGen ga gi)
    (G : GAt prog w A hb c u gi 2 s s) (k : ∀ s₂, GAt prog w A hb c u gi 0 s s₂ → wpAny (model prog w) A (K [c, u]) Q E s₂) : wpAny (model prog w) A (holding [Value.ref ga] (draw (.ref ga) 2) >>= K) Q E s :=
  wpAny_bind (wpAny_holding (draw_step (gat_next (s₀ := s) hh hroom hlim hg G fun s₁ G₁ => ⟨_, rfl, draw_step (gat_next (s₀ := s) hh hroom hlim hg G₁ fun s₂ G₂ => ⟨_, rfl, draw_zero (k s₂ G₂)⟩)⟩)))
end

set_option maxRecDepth 100000 in
set_option maxHeartbeats 8000000 in
theorem tag_unpack {w : World} {A : Around} {E : Value → Shared → Prop} {s : Shared} {g : Heap} {L : Addr} {m : Str → Option Value} {mean : ExcName → Option Value} {mg mb : Str → Option Value} {x C d : Addr} {c u : Value} {Q : List Value → Shared → Prop}
    (hh : A.handled = none) (hroom : A.depth + 8 < recursionLimit) (F : Fr g L s.heap m) (X₀ : (hd.heap_39 w.params).In g) (T₀ : Top hd.view_39 lz mean mg mb g) (I : InstAt s.heap x (tagO C d c u) C (some (dictOf [] 0)))
    (hcase : C = 149 ∨ (C = 217 ∧ ∃ a items, u = .ref a ∧ IsTup s.heap a items)) (hc : handedIn c = true) (hu : handedIn u = true)
    (k : ∀ h' tk gs, (∀ b o, s.heap.get? b = some o → h'.get? b = some o) → ((∀ y ∈ s.gens, y.bare = true) → ∀ y ∈ gs, y.bare = true) → Q [c, u] { s with heap := h', toks := tk, gens := gs }) :
    wpAny (model pw w) A (unpackItems (.ref x) 2 none) Q E s := by
  have X := X₀.keeps F.keep
  have T := T₀.keeps F.keep
  have hs : findIn (hd.heap_39 w.params) (.ref C) "__iter__" = some (some (.ref 117)) := by
    rcases hcase with rfl | ⟨rfl, _⟩ <;> k_is
  have hf : isFn (hd.heap_39 w.params) (.ref 117) = true := by k_is
  unfold unpackItems
  refine wpAny_bind (show wpAny _ A (notIterableAtAll (.ref x)) _ _ _ from ?_)
  unfold notIterableAtAll
  refine wpAny_bind (wpAny_bind (I.type.here ((looks_findIn X hs).here ?_)))
  refine wpAny_pure ?_
  simp only [Bool.false_eq_true, if_false]
  refine wpAny_bind (wpAny_holding (owit_iter F X₀ I hs hf (wpAny_call ?_)))
  refine' enter_gen (Nat.lt_of_le_of_lt (Nat.le_add_right _ 8) hroom) X T.nolimit ?ho ?hcd ?hb ?hl ?h1 ?h2 ?h3 ?h4 ?_
  case ho => k_is
  case hcd => k_is
  case hb => exact BindsTo.of_eq rfl
  case hl => exact locs rfl
  case h1 => decide
  case h2 => rfl
  case h3 => rfl
  case h4 => rfl
  intro h₁ tk₁ nm qn F₁
  have hG : (h₁.push { cls := .type "generator", data := .fields #[.int s.gens.size 0, nm, qn] }).IsGen h₁.objs.size s.gens.size := ⟨_, nm, qn, Heap.get?_push_size _ rfl, rfl, rfl, rfl⟩
  have hroom1 : A.depth < recursionLimit := Nat.lt_of_le_of_lt (Nat.le_add_right _ 8) hroom
  have keep₁ : KeepH s.heap (h₁.push { cls := .type "generator", data := .fields #[.int s.gens.size 0, nm, qn] }) := fun b o e => Heap.get?_push_of_some _ (F₁.keep b o e)
  have hlim₁ : (h₁.push { cls := .type "generator", data := .fields #[.int s.gens.size 0, nm, qn] }).NoLimit := T.nolimit.keeps keep₁
  refine (show OwitIt _ _ _ _ _ _ from ?_)
  unfold OwitIt
  refine wpAny_specialOf hG.typeIs slot_gen_next.lookup ?_
  dsimp only
  refine gat_bind c u s.gens.size hh hroom1 hlim₁ hG ?goes fun s₂ G₂ => ?_
  case goes =>
    refine ⟨⟨_, _, _, rfl⟩, fun _ _ e => e, fun _ _ e => e, fun h => h, _, Array.getElem?_push_size .., fun s'' hk'' => ⟨rfl, ?_⟩⟩
    have F'' : Fr s.heap s.heap.objs.size s''.heap _ := F₁.after fun b o e => hk'' b o (Heap.get?_push_of_some _ e)
    have I'' : InstAt s''.heap x (tagO C d c u) C (some (dictOf [] 0)) := InstAt.keeps' I F''.keep
    have N'' : News s.heap s.heap.objs.size s''.heap [] := News.nil
    rcases hcase with rfl | ⟨rfl, a, items, rfl, hat⟩
    · refine seg_func (seg_execs_cons (seg_Expr_Yield rfl rfl rfl ?_))
      walk_at "stp"
      walk_at "stp"
      walk_at "stp"
      intro kap hkap
      refine ⟨⟨_, _, rfl, fun _ _ e => e⟩, rfl, fun s₃ hk₃ => hkap .none s₃ ?_⟩
      clear F'' I'' N'' hkap hk'' s''
      have F'' : Fr s.heap s.heap.objs.size s₃.heap _ := F₁.after fun b o e => hk₃ b o (Heap.get?_push_of_some _ e)
      have I'' : InstAt s₃.heap x (tagO 149 d c u) 149 (some (dictOf [] 0)) := InstAt.keeps' I F''.keep
      have N'' : News s.heap s.heap.objs.size s₃.heap [] := News.nil
      refine seg_execs_cons (seg_Expr_Yield rfl rfl rfl ?_)
      walk_at "stp"
      walk_at "stp"
      refine' get_prop' F'' X I'' ?hg ?hc ?ha ?hn ?ht ?hp ?_
      case hg => k_is
      case hc => k_is
      case ha => k_is
      case hn => k_is
      case ht => k_is
      case hp => k_is
      refine value_tag (s := { s₃ with toks := s₃.toks + 1 }) (show A.depth + 0 + 1 < recursionLimit from Nat.lt_of_le_of_lt (by omega) hroom) (X.keeps F''.keep) (T.keeps F''.keep) I'' hu fun h₄ tk₄ hk₄ => ?_
      dsimp only
      rw [handedOut_of hu]
      refine wpAny_pure fun kap hkap => ⟨⟨h₄, tk₄, rfl, hk₄⟩, rfl, fun s₅ hk₅ => hkap .none s₅ ?_⟩
      exact seg_execs_nil (seg_end (.ok (.ret .none)) ⟨rfl, rfl, s₅.heap, s₅.toks, rfl, fun _ _ e => e⟩)
    · refine seg_func (seg_execs_cons (seg_Expr_Yield rfl rfl rfl ?_))
      walk_at "stp"
      walk_at "stp"
      walk_at "stp"
      intro kap hkap
      refine ⟨⟨_, _, rfl, fun _ _ e => e⟩, rfl, fun s₃ hk₃ => hkap .none s₃ ?_⟩
      clear F'' I'' N'' hkap hk'' s''
      have F'' : Fr s.heap s.heap.objs.size s₃.heap _ := F₁.after fun b o e => hk₃ b o (Heap.get?_push_of_some _ e)
      have I'' : InstAt s₃.heap x (tagO 217 d c (.ref a)) 217 (some (dictOf [] 0)) := InstAt.keeps' I F''.keep
      have N'' : News s.heap s.heap.objs.size s₃.heap [] := News.nil
      refine seg_execs_cons (seg_Expr_Yield rfl rfl rfl ?_)
      walk_at "stp"
      walk_at "stp"
      refine' get_prop' F'' X I'' ?hg ?hc ?ha ?hn ?ht ?hp ?_
      case hg => k_is
      case hc => k_is
      case ha => k_is
      case hn => k_is
      case ht => k_is
      case hp => k_is
      refine value_vert (s := { s₃ with toks := s₃.toks + 1 }) (show A.depth + 0 + 1 < recursionLimit from Nat.lt_of_le_of_lt (by omega) hroom) (X.keeps F''.keep) (T.keeps F''.keep) I'' (show IsTup s₃.heap a items from by obtain ⟨o, ho, r⟩ := hat; exact ⟨o, F''.keep _ _ ho, r⟩) fun h₄ tk₄ hk₄ => ?_
      dsimp only
      rw [handedOut_of hu]
      refine wpAny_pure fun kap hkap => ⟨⟨h₄, tk₄, rfl, hk₄⟩, rfl, fun s₅ hk₅ => hkap .none s₅ ?_⟩
      exact seg_execs_nil (seg_end (.ok (.ret .none)) ⟨rfl, rfl, s₅.heap, s₅.toks, rfl, fun _ _ e => e⟩)
  rw [if_neg (by simp)]
  refine wpAny_bind (wpAny_holding (gat_end hh hroom1 hlim₁ hG G₂ fun h tk gl hk hb => ?_))
  simp only [Option.isSome_none, Bool.false_eq_true, if_false]
  refine wpAny_pure (k h tk gl (fun b o e => hk b o (keep₁ b o e)) fun h0 => hb fun y hy => ?_)
  rcases Array.mem_push.mp hy with hy | rfl
  · exact h0 y hy
  · rfl
end Mine

set_option Elab.async false
namespace Mine
open PySem PySem.W PyProof.Rows PySem.Calls
open PySem.Builtin PySem.Builtin.List
set_option maxRecDepth 100000
set_option maxHeartbeats 4000000

def makesL (K : Frag) (C : Addr) : Bool := match K.lookup C with
  | some ⟨_, _, .cls cd, sl⟩ => !cd.hasDel && (sl.toList[4]?).join == some (.builtin "list.__new__") && !cd.mro.isEmpty && cd.mro.contains (.ref C) && cd.mro.contains (.type "list") &&
      specialIn K (.ref C) "__call__" == some (some (.builtin "type.__call__")) && instIn K (.ref C) (.type "type") == some true
  | _ => false
structure MakesL (M : Model) (h : Heap) (C : Addr) : Prop where
  obj : ∃ oc od cd sl, h.get? C = some ⟨oc, od, .cls cd, sl⟩ ∧ cd.hasDel = false ∧ cd.mro.isEmpty = false
  made : Looks M h (Bind.madeBy (.ref C)) (some "list.__new__")
  base : Looks M h (Bind.staticBase (.ref C)) (.ref C)
  self : Looks M h (isSubtype (.ref C) (.ref C)) true
  top : Looks M h (isSubtype (.ref C) (.type "list")) true
  call : Looks M h (specialOf (.ref C) "__call__") (some (.builtin "type.__call__"))
  typ : Looks M h (isInstance (.ref C) (.type "type")) true
theorem makesL_of {K : Frag} {M : Model} {h : Heap} (X : K.In h) {C : Addr} (e : makesL K C = true) : MakesL M h C := by
  unfold makesL at e
  split at e
  · rename_i oc od cd sl ho
    simp only [Bool.and_eq_true, Bool.not_eq_true', beq_iff_eq] at e
    obtain ⟨⟨⟨⟨⟨⟨e2, e3⟩, e4⟩, e5⟩, e6⟩, e7⟩, e8⟩ := e
    have hc : clsIn K C = some cd := by unfold clsIn; rw [ho]
    have hm : Looks M h (mroOf (.ref C)) cd.mro := (looks_clsIn X hc).andThen .now
    obtain ⟨c, l, hl⟩ : ∃ c l, cd.mro = c :: l := by cases q : cd.mro with | nil => rw [q] at e4; cases e4 | cons c l => exact ⟨c, l, rfl⟩
    have made : Looks M h (Bind.madeBy (.ref C)) (some "list.__new__") := by
      intro A Q E s k q
      unfold Bind.madeBy
      refine wpAny_bind (hm A _ E s k ?_)
      rw [hl, List.forIn_cons]
      refine wpAny_bind (wpAny_bind (wpAny_bind (wpAny_bind (wpAny_loadPart (k _ _ (X _ _ ho)) (wpAny_pure ?_)))))
      dsimp only
      rw [← Array.getElem?_toList, e3]
      exact wpAny_pure (wpAny_pure (wpAny_pure q))
    refine ⟨⟨oc, od, cd, sl, X _ _ ho, e2, e4⟩, made, ?_, looks_mroIn X ?_, looks_mroIn X ?_, looks_specialIn X e7, looks_instIn X e8⟩
    · intro A Q E s k q
      unfold Bind.staticBase
      refine wpAny_bind (hm A _ E s k ?_)
      rw [hl, List.forIn_cons]
      exact wpAny_bind (wpAny_bind (wpAny_bind (made A _ E s k (wpAny_pure (wpAny_pure (wpAny_pure q))))))
    · unfold mroIn; rw [hc, Option.bind_some, if_neg (by rw [e4]; decide), e5]
    · unfold mroIn; rw [hc, Option.bind_some, if_neg (by rw [e4]; decide), e6]
  · cases e

abbrev subO (C d : Addr) (vs : Array Value) (n : Nat) : Obj := { cls := .ref C, dict := some d, data := .seq vs n }
theorem ln_kind : builtinKind "list.__new__" = some .builtinFn := by decide +kernel
theorem ln_split : splitId "list.__new__" = some ("list", "__new__") := by decide +kernel
theorem ln_quiet : ("list.__new__" : String).startsWith "lifetime." = false := by decide +kernel

section
variable {prog : Program} {w : World} {A : Around} {K : Frag} {C : Addr} {R : Result → Shared → Prop} {h : Heap} {g : Array GenState} {d : Drawn} {t : Nat} {os : OsState}
theorem newL_K {b : Value} (Y : MakesL (model prog w) h C)
    (hq : R (.ok (.ret (.ref (h.objs.size + 1)))) ⟨(h.push emptyDict).push (subO C h.objs.size #[] 0), g, d, t, os⟩) :
    codeAny (model prog w) A (.call (.builtin "list.__new__") ⟨[.ref C, b], []⟩) R ⟨h, g, d, t, os⟩ := by
  obtain ⟨⟨oc, od, cd, sl, hC, e2, e4⟩, made, base, self, top, call, typ⟩ := Y
  refine codeAny_call_builtin_code (Code.quiet_builtin _ ln_quiet) ?_
  simp only [checkBuiltinCall, ln_kind, ln_split]
  repeat (first | simp only [bne_self_eq_false, Bool.false_eq_true, if_false] | lk)
  refine codeAny_builtin_stack PySem.F.entry_list_new rfl fun p st => ?_
  have hown := PySem.owner_list_new
  simp only [hown]
  have fin : ∀ A', wpAny (model prog w) A' (newDict >>= fun __do_lift => match __do_lift with
      | .ref d => newObj (.ref C) (.seq #[]) (some d) >>= fun x => ret x
      | _ => unsupported "internal:list.__new__") (fun fin s' => match fin with | .done f => R (.ok f) s' | .again c' => c'.quiet = true ∧ codeAny (model prog w) A c' R s') (fun e s' => R (.error e) s') ⟨h, g, d, t, os⟩ := by
    intro A'
    unfold newDict
    refine wpAny_bind (wpAny_newObj_type ?_ (by size_fits))
    refine wpAny_bind ?_
    show wpAny _ _ (newObjAsIs _ _ _) _ _ _
    unfold newObjAsIs classHasDel
    refine wpAny_bind (wpAny_alloc (wpAny_bind (wpAny_bind (wpAny_load (Heap.get?_push_of_some _ (Heap.get?_push_of_some _ hC)) (wpAny_pure ?_)))))
    rw [e2]
    refine wpAny_pure (wpAny_pure ?_)
    show R _ _
    rw [Heap.size_push]
    exact hq
  repeat (first | simp only [typeHasDict, Bool.not_true, Bool.false_eq_true, if_false] | exact fin _ | lk)

theorem listInit {s : Shared} {Q : Fin → Shared → Prop} {E : Value → Shared → Prop} (S it dx : Addr) {T : String} {o : Obj} {items : Array Value} {n : Nat} (hT : T = "list" ∨ T = "tuple") (hne : it ≠ S)
    (hS : s.heap.get? S = some (subO C dx #[] 0)) (ho : s.heap.get? it = some o) (hc : o.cls = .type T) (hd : o.data = .seq items n) (hsz : items.size ≤ sizeLine)
    (hR : ∀ h' c', (∀ b o', b ≠ S → s.heap.get? b = some o' → h'.get? b = some o') → h'.get? S = some (subO C dx items c') → h'.objs.size = s.heap.objs.size → Q (.done (.ret .none)) { s with heap := h' }) :
    wpAny (model prog w) A (Builtin.«list.__init__» ⟨[.ref S, .ref it], []⟩) Q E s := by
  show wpAny _ A (do let old ← Builtin.List.listItems (.ref S); Builtin.List.listUpdate (.ref S) (fun _ => #[]); letGo old.toList.reverse; Builtin.List.listExtendWith (.ref S) (.ref it) .none) _ _ s
  refine wpAny_bind ?_
  unfold Builtin.List.listItems
  refine wpAny_bind (wpAny_seqItems hS rfl (wpAny_pure ?_))
  show wpAny _ A (updateSeq S (fun _ => #[]) >>= fun _ => letGo (#[] : Array Value).toList.reverse >>= fun _ => Builtin.List.listExtendWith (.ref S) (.ref it) .none) _ _ s
  refine wpAny_bind (wpAny_updateSeq hS rfl ?_)
  have hS₂ := Heap.get?_update_self (Obj.mapSeq (fun _ => (#[] : Array Value))) hS rfl
  refine wpAny_bind (wpAny_letGo ?_)
  have ho₂ : (s.heap.update S (Obj.mapSeq (fun _ => (#[] : Array Value)))).get? it = some o := (Heap.get?_update_other _ _ (Ne.symm hne)).trans ho
  unfold Builtin.List.listExtendWith
  refine wpAny_bind (wpAny_typeOf ⟨o, ho₂, hc⟩ ?_)
  have h1 : (Builtin.List.listSameRef (.ref S) (.ref it) || Value.type T == Value.type "list" || Value.type T == Value.type "tuple") = true := by
    rcases hT with rfl | rfl <;> simp
  simp only [h1, if_true]
  refine wpAny_bind ?_
  unfold Builtin.List.listItems
  refine wpAny_bind (wpAny_seqItems ho₂ hd (wpAny_pure ?_))
  refine wpAny_bind ?_
  refine wpAny_bind (wpAny_seqItems hS₂ rfl (wpAny_pure ?_))
  show wpAny _ A (updateSeq S (· ++ items) >>= fun _ => ret .none) _ _ _
  refine wpAny_bind (wpAny_updateSeq hS₂ rfl (hz := by simp) ?_)
  have hS₃ := Heap.get?_update_self (Obj.mapSeq (· ++ items)) hS₂ rfl
  refine wpAny_pure (hR _ _ (fun b o' hb e => ?_) (by simpa [Obj.mapSeq] using hS₃) (by simp))
  exact (Heap.get?_update_other _ _ (Ne.symm hb)).trans ((Heap.get?_update_other _ _ (Ne.symm hb)).trans e)

theorem make_L {s : Shared} {h₀ : Heap} {L : Addr} {m : Str → Option Value} {news : List (Addr × Obj)} {it : Addr} {T : String} {o : Obj} {items : Array Value} {n : Nat}
    (F : Fr h₀ L s.heap m) (N : News h₀ L s.heap news) (X : K.In s.heap) (hm : makesL K C = true)
    (hi : findIn K (.ref C) "__init__" = some (some (.builtin "list.__init__"))) (hT : T = "list" ∨ T = "tuple") (ho : s.heap.get? it = some o) (hc : o.cls = .type T) (hd : o.data = .seq items n) (hsz : items.size ≤ sizeLine)
    (hsub : mroIn K C (.type "list") = some true)
    (hR : ∀ x dx h' c', Fr h₀ L h' m → News h₀ L h' ((x, subO C dx items c') :: (dx, emptyDict) :: news) → (∀ p ∈ news, p.1 < dx) → @LT.lt Nat _ dx x → R (.ok (.ret (.ref x))) { s with heap := h' }) :
    codeAny (model prog w) A (.call (.ref C) ⟨[.ref it], []⟩) R s := by
  obtain ⟨h, g, d, t, os⟩ := s
  have Y := makesL_of (M := model prog w) X hm
  have Y' := Y
  obtain ⟨⟨oc, od, cd, sl, hC, e2, e4⟩, made, base, self, top, call, typ⟩ := Y
  refine codeAny_of_tree ?_
  show wpAny _ _ (callAny (.ref C) _) _ _ _
  refine nd_load hC ?_
  show wpAny _ _ (callAny.viaDunder (.ref C) _) _ _ _
  unfold callAny.viaDunder
  refine wpAny_bind (call.at ?_)
  dsimp only
  rw [tc_bind]
  refine wpAny_bind (wpAny_pure (wpAny_bind (wpAny_pure ?_)))
  refine wpAny_pure (a := Fin.again (.call (.builtin "type.__call__") ⟨[.ref C, .ref it], []⟩)) (And.intro rfl ?_)
  refine codeAny_call_builtin_at (Code.quiet_builtin _ (by decide +kernel)) entry_typeCall (check_slot tc_kind tc_split typ (tc_args _ _ _) ?_)
  unfold Builtin.«type.__call__»
  have hm' : Looks (model prog w) h (mroOf (.ref C)) cd.mro := ((Looks.ld (part := none) hC).andThen .now).andThen .now
  repeat (first | simp only [e4, Bool.false_eq_true, if_false] | with_reducible refine wpAny_call ?_ | lk)
  refine newL_K Y' ?_
  have k : ∀ b o, h.get? b = some o → ((h.push emptyDict).push (subO C h.objs.size #[] 0)).get? b = some o := fun b o e => Heap.get?_push_of_some _ (Heap.get?_push_of_some _ e)
  have hx : ((h.push emptyDict).push (subO C h.objs.size #[] 0)).get? (h.objs.size + 1) = some (subO C h.objs.size #[] 0) := by heap_get
  have t1 : Looks (model prog w) ((h.push emptyDict).push (subO C h.objs.size #[] 0)) (typeOf (.ref (h.objs.size + 1))) (.ref C) := (Looks.ld hx).andThen .now
  have s1 := self.keeps k
  have i1 := (looks_findIn (M := model prog w) X hi).keeps k
  unfold isInstance callSpecial? specialOf
  have bnd : bindSpecial (.builtin "list.__init__") (.ref (h.objs.size + 1)) = pure (.builtin "list.__init__", [.ref (h.objs.size + 1)]) := PySem.F.slot_list_init.bind _
  repeat (first | rw [bnd] | with_reducible refine wpAny_call ?_ | lk)
  have N' := (N.push F emptyDict).push (F.push _) (subO C h.objs.size #[] 0)
  rw [Heap.size_push] at N'
  have F' : Fr h₀ L ((h.push emptyDict).push (subO C h.objs.size #[] 0)) m := (F.push _).push _
  have t2 : Looks (model prog w) ((h.push emptyDict).push (subO C h.objs.size #[] 0)) (isInstance (.ref (h.objs.size + 1)) (.type "list")) true := t1.andThen ((looks_mroIn X hsub).keeps k)
  have hne : it ≠ h.objs.size + 1 := Nat.ne_of_lt (Nat.lt_succ_of_lt (Heap.lt_size ho))
  refine codeAny_call_builtin PySem.F.slot_list_init.plain PySem.F.entry_list_init (@check_slot (model prog w) _ _ _ "list.__init__" "list" "__init__" (.ref (h.objs.size + 1)) [.ref it] [] _ (by decide +kernel) (by decide +kernel) t2 (PySem.F.args_list_init_2 _ _) ?_)
  refine listInit (s := ⟨(h.push emptyDict).push (subO C h.objs.size #[] 0), g, d, t, os⟩) (h.objs.size + 1) it h.objs.size hT hne hx (k _ _ ho) hc hd hsz fun h' c' hk hx' hz => ?_
  refine wpAny_pure (wpAny_pure ?_)
  refine hR (h.objs.size + 1) h.objs.size h' c' ?_ ?_ (fun p hp => Heap.lt_size (N p hp).1) (Nat.lt_succ_self _)
  · obtain ⟨f1, f2, f3⟩ := F'
    have hL : L ≠ h.objs.size + 1 := (N' _ (.head _)).2.1.symm
    exact ⟨f1.at' fun o e => hk _ _ hL e, fun b o e => hk _ _ (Nat.ne_of_lt (Nat.lt_succ_of_lt (Heap.lt_size (F.keep _ _ e)))) (f2 b o e), f3⟩
  · intro q hq
    rcases List.mem_cons.mp hq with rfl | hq
    · exact ⟨hx', (N' _ (.head _)).2⟩
    · have hq' := N' q (List.mem_cons_of_mem _ hq)
      refine ⟨hk _ _ ?_ hq'.1, hq'.2⟩
      rcases List.mem_cons.mp hq with rfl | hq
      · exact Nat.ne_of_lt (Nat.lt_succ_self _)
      · exact Nat.ne_of_lt (Nat.lt_succ_of_lt (Heap.lt_size (N q hq).1))
end
end Mine

set_option Elab.async false
namespace Mine
open PySem PySem.W PyProof.Rows PySem.Calls
theorem kfilled5 : (hd.heap_39 = hd.heap_39) → (PySem.Challenge.rw_vz0017_01 = PySem.Challenge.rw_vz0017_01) → True := by
  k_fill
  intros; trivial
set_option maxRecDepth 100000
set_option maxHeartbeats 4000000

structure SubL (K : Frag) (C : Addr) : Prop where
  iter : findIn K (.ref C) "__iter__" = some (some (.builtin "list.__iter__"))
  item : findIn K (.ref C) "__getitem__" = some (some (.builtin "list.__getitem__"))
  sub : mroIn K C (.type "list") = some true
  dq : mroIn K C (.type "collections.deque") = some false

theorem tagsSub {w : World} : SubL (hd.heap_39 w.params) 429 := by
  refine ⟨?_, ?_, ?_, ?_⟩ <;> k_is

theorem check_sub {M : Model} {A : Around} {E : Value → Shared → Prop} {s : Shared} {i owner n : String} {self : Value} {rest : List Value} {kw : List (Str × Value)} {Q : Unit → Shared → Prop}
    (hk : builtinKind i = some .slot ∨ builtinKind i = some .method) (hs : splitId i = some (owner, n)) (hi : Looks M s.heap (isInstance self (.type owner)) true) (ha : argsOk i ⟨self :: rest, kw⟩) (q : Q () s) :
    wpAny M A (checkBuiltinCall i ⟨self :: rest, kw⟩) Q E s := by
  rcases hk with hk | hk <;>
  · simp only [checkBuiltinCall, hk, hs]
    refine wpAny_bind (hi.here ?_)
    simp only [Bool.not_true, Bool.false_eq_true, if_false]
    cases hsig : Manifest.signature? i with
    | none => exact wpAny_pure q
    | some sig =>
      simp only [argsOk, hsig] at ha
      have h2 : Bind.checkArgs i sig ⟨self :: rest, kw⟩ = pure () := ha
      show wpAny M A (Bind.checkArgs i sig ⟨self :: rest, kw⟩) Q E s
      rw [h2]; exact wpAny_pure q

section
variable {prog : Program} {w : World} {A : Around} {E : Value → Shared → Prop} {s : Shared} {K : Frag} {x C : Addr} {ox : Obj} {od : Option Obj}
theorem special_sub {M : Model} {T : String} {name : Str} {id : String} {args : List Value} {Q : Option Value → Shared → Prop} (S : Slot T name id) (X : K.In s.heap) (I : InstAt s.heap x ox C od)
    (hs : findIn K (.ref C) name = some (some (.builtin id))) (h : wpAny M A (call (.builtin id) (.ref x :: args)) (fun v => Q (some v)) E s) :
    wpAny M A (callSpecial? (.ref x) name args) Q E s := by
  refine wpAny_bind (wpAny_bind (I.type.here ((looks_findIn X hs).here (wpAny_holding ?_))))
  rw [S.bind]
  exact wpAny_bind (wpAny_pure (wpAny_bind (wpAny_mono h (fun _ _ z => wpAny_pure z) fun _ _ z => z)))

theorem isList_sub {M : Model} (X : K.In s.heap) (I : InstAt s.heap x ox C od) (Y : SubL K C) : Looks M s.heap (isInstance (.ref x) (.type "list")) true := I.type.andThen (looks_mroIn X Y.sub)

theorem pyIter_sub {Q : Value → Shared → Prop} (X : K.In s.heap) (I : InstAt s.heap x ox C od) (Y : SubL K C)
    (hQ : Q (.ref s.heap.objs.size) { s with heap := s.heap.push { cls := .type "list_iterator", data := .fields #[.ref x, .int 0 0] } }) : wpAny (model prog w) A (pyIter (.ref x)) Q E s := by
  have hs := Y.iter
  have h : wpAny (model prog w) A (call (.builtin "list.__iter__") [.ref x]) (fun v s' => v = .ref s.heap.objs.size ∧ s' = { s with heap := s.heap.push { cls := .type "list_iterator", data := .fields #[.ref x, .int 0 0] } }) E s := by
    refine wpAny_call (codeAny_call_builtin slot_list_iter.plain entry_list_iter (@check_sub (model prog w) _ _ s "list.__iter__" "list" "__iter__" (.ref x) [] [] _ (.inl (by decide +kernel)) (by decide +kernel) (isList_sub X I Y) (args_list_iter _) ?_))
    show wpAny _ _ (do ret (← newFields "list_iterator" [.ref x, rawInt 0])) _ _ s
    exact wpAny_bind (wpAny_newObj_type (wpAny_pure ⟨rfl, rfl⟩) (by size_fits))
  have fin : wpAny (model prog w) A (call (.builtin "list.__iter__") [.ref x] >>= fun v => pure (some v)) (fun r s' => r = some (.ref s.heap.objs.size) ∧ s' = { s with heap := s.heap.push { cls := .type "list_iterator", data := .fields #[.ref x, .int 0 0] } }) E s :=
    wpAny_bind (wpAny_mono h (fun v s' h' => wpAny_pure ⟨by rw [h'.1], h'.2⟩) fun _ _ z => z)
  have bnd : bindSpecial (.builtin "list.__iter__") (.ref x) = pure (.builtin "list.__iter__", [.ref x]) := slot_list_iter.bind _
  have one : ∀ refuse : Sem Value, wpAny (model prog w) A (callSpecialIfBoundUnlessNone? (.ref x) "__iter__" refuse) (fun r s' => r = some (.ref s.heap.objs.size) ∧ s' = { s with heap := s.heap.push { cls := .type "list_iterator", data := .fields #[.ref x, .int 0 0] } }) E s := by
    intro refuse
    simp only [callSpecialIfBoundUnlessNone?, bindSpecialIfBound?]
    refine wpAny_holding (wpAny_bind (wpAny_bind (wpAny_bind (I.type.here ((looks_findIn X hs).here ?_)))))
    refine wpAny_bind (wpAny_askSetting (wpAny_ite ?_))
    have fin2 : wpAny (model prog w) A (if (Value.builtin "list.__iter__" == Value.none) = true then (refuse >>= fun v => pure (some v)) else (call (.builtin "list.__iter__") [.ref x] >>= fun v => pure (some v))) (fun r s' => r = some (.ref s.heap.objs.size) ∧ s' = { s with heap := s.heap.push { cls := .type "list_iterator", data := .fields #[.ref x, .int 0 0] } }) E s := by
      rw [if_neg (show ¬ ((Value.builtin "list.__iter__" == Value.none) = true) from Bool.false_ne_true)]
      exact fin
    rw [bnd]
    split
    · exact wpAny_bind (wpAny_pure (wpAny_pure (by exact fin2)))
    · exact wpAny_tryCatch (wpAny_bind (wpAny_pure (wpAny_pure (by exact fin2))))
  unfold pyIter
  refine wpAny_bind (wpAny_bind (I.type.here ((looks_findIn X hs).here ?_)))
  show wpAny _ A (callSpecialIfBoundUnlessNone? (.ref x) "__iter__" _ >>= _) Q E s
  refine wpAny_bind (wpAny_mono (one _) (fun r s' hr => ?_) fun _ _ z => z)
  obtain ⟨rfl, rfl⟩ := hr
  have hT : Shared.TypeIs { s with heap := s.heap.push { cls := .type "list_iterator", data := .fields #[.ref x, .int 0 0] } } (.ref s.heap.objs.size) "list_iterator" := ⟨_, Heap.get?_push_size _ rfl, rfl⟩
  dsimp only
  refine wpAny_bind (wpAny_specialOf hT slot_listiter_next.lookup ?_)
  exact wpAny_pure hQ

theorem meets_enum_sub (x : Addr) (od : Option Obj) (items : Array Value) (n : Nat) (d : Addr) (Y : SubL K C) :
    Meets (Builtin.«enumerate.__new__» ⟨[.type "enumerate", .ref x], []⟩) (fun _ R s => (K.In s.heap ∧ InstAt s.heap x (subO C d items n) C od) ∧
      R (.ok (.ret (.ref (s.heap.push { cls := .type "list_iterator", data := .fields #[.ref x, .int 0 0] }).objs.size)))
        { s with heap := (s.heap.push { cls := .type "list_iterator", data := .fields #[.ref x, .int 0 0] }).push { cls := .type "enumerate", data := .fields #[.none, .bool false, .ref s.heap.objs.size, rawInt 0, .none, .none] } }) :=
  .of_wp fun prog w A R s h => by
    obtain ⟨hp, g, dr, tk, os⟩ := s; obtain ⟨⟨X, I⟩, h⟩ := h
    have hl : hp.get? x = some (subO C d items n) := I.at_
    have hsub := PySem.sub_enumerate
    wp_walk using AutoSeq1.wpAny_loadPart' hl
    refine wpAny_stack_any fun st => wpAny_pure ?_
    split
    · rename_i c _ _ _ _ _
      cases (c == Value.type "enumerate")
      · wp_walk using AutoSeq1.wpAny_loadPart' hl, pyIter_sub X I Y
        exact ⟨_, rfl, h⟩
      · wp_walk using AutoSeq1.wpAny_loadPart' hl, pyIter_sub X I Y
        exact ⟨_, rfl, h⟩
    · wp_walk using AutoSeq1.wpAny_loadPart' hl, pyIter_sub X I Y
      exact ⟨_, rfl, h⟩

theorem call_enumerate_sub {items : Array Value} {n : Nat} {d : Addr} {Q : Value → Shared → Prop} (X : K.In s.heap) (I : InstAt s.heap x (subO C d items n) C od) (Y : SubL K C)
    (h : ∀ h', IsEnum h' (s.heap.objs.size + 1) s.heap.objs.size 0 .none → h'.IsListIter s.heap.objs.size x 0 → h'.objs.size = s.heap.objs.size + 2 →
      (∀ b o, s.heap.get? b = some o → h'.get? b = some o) → Q (.ref (s.heap.objs.size + 1)) { s with heap := h' }) :
    wpAny (model prog w) A (call (.type "enumerate") [.ref x]) Q E s := by
  refine callType_new F.called_enumerate (by decide) (F.typeCall_enumerate_1 _) (F.newCall_enumerate_1 _) (fun obj => F.args_object_init_2 obj _) F.entry_enumerate_new
    (meets_enum_sub x od items n d Y) ⟨⟨X, I⟩, ?_⟩
  have hz : (s.heap.push { cls := .type "list_iterator", data := .fields #[.ref x, .int 0 0] }).objs.size = s.heap.objs.size + 1 := Heap.size_push ..
  show _ ∧ _
  rw [hz]
  have he : IsEnum ((s.heap.push { cls := .type "list_iterator", data := .fields #[.ref x, .int 0 0] }).push
      { cls := .type "enumerate", data := .fields #[.none, .bool false, .ref s.heap.objs.size, rawInt 0, .none, .none] }) (s.heap.objs.size + 1) s.heap.objs.size 0 .none := by
    have := Heap.get?_push_size (s.heap.push { cls := .type "list_iterator", data := .fields #[.ref x, .int 0 0] })
      (o := { cls := .type "enumerate", data := .fields #[.none, .bool false, .ref s.heap.objs.size, rawInt 0, .none, .none] }) rfl
    rw [hz] at this; exact this
  refine ⟨⟨_, he, rfl⟩, h _ he ⟨_, Heap.get?_push_of_some _ (Heap.get?_push_size _ rfl), rfl, rfl⟩ (by rw [Heap.size_push, hz]) fun b o x => Heap.get?_push_of_some _ (Heap.get?_push_of_some _ x)⟩

theorem getItem_sub_slice {sl d : Addr} {items : Array Value} {n : Nat} {vl vu vs : Value} {lo hi st : Option Int} {Q : Value → Shared → Prop} (X : K.In s.heap) (I : InstAt s.heap x (subO C d items n) C od) (Y : SubL K C)
    (hs : s.heap.IsSliceOf sl vl vu vs) (pl : IsPart vl lo) (pu : IsPart vu hi) (ps : IsPart vs st) (h0 : st ≠ some 0)
    (h : Q (.ref s.heap.objs.size) { s with heap := s.heap.push { cls := .type "list", data := .seq (slicePick items lo hi st) } })
    (hsz : items.size ≤ sizeLine) : wpAny (model prog w) A (getItem (.ref x) (.ref sl)) Q E s := by
  obtain ⟨os, hos, hcs, hds⟩ := id hs
  have ho : s.heap.get? x = some (subO C d items n) := I.at_
  have hTs : s.TypeIs (.ref sl) "slice" := ⟨os, hos, hcs⟩
  have hk : ∀ (A' : Around) (Q' : Value → Shared → Prop) (E' : Value → Shared → Prop), Q' (.ref sl) s → wpAny (model prog w) A' (sequenceKey (.ref x) (.ref sl) "__getitem__") Q' E' s := by
    intro A' Q' E' h
    unfold sequenceKey
    refine wpAny_bind (I.type.here ?_)
    dsimp only
    refine wpAny_bind ?_
    show wpAny _ _ (seqItemTypes.anyM fun n => isSubtype (.ref C) (.type n)) _ _ _
    unfold seqItemTypes
    refine wpAny_bind ((looks_mroIn X Y.dq).here ?_)
    exact wpAny_pure (wpAny_pure h)
  unfold getItem
  refine wpAny_holding ?_
  refine wpAny_bind (hk _ _ _ ?_)
  refine wpAny_bind (special_sub slot_list_getitem X I Y.item (wpAny_call (codeAny_call_builtin slot_list_getitem.plain entry_list_getitem
    (@check_sub (model prog w) _ _ s "list.__getitem__" "list" "__getitem__" (.ref x) [.ref sl] [] _ (by first | exact .inl (by decide +kernel) | exact .inr (by decide +kernel)) (by decide +kernel) (isList_sub X I Y) (args_list_getitem _ _) ?_))))
  show wpAny _ _ (Builtin.List.listSubscript? (.ref sl) >>= _) _ _ s
  refine wpAny_bind ?_
  · unfold Builtin.List.listSubscript?
    refine wpAny_bind (wpAny_specialOf hTs slice_no_index ?_)
    simp only [Option.isNone_none, if_true]
    refine wpAny_pure ?_
    show wpAny _ _ (typeOf (.ref sl) >>= _) _ _ s
    refine wpAny_bind (wpAny_typeOf hTs ?_)
    rw [if_neg (by decide)]
    rw [listSliceParts_eq]
    have hstep : ¬ ((rawPart st == rawInt 0) = true) := by
      cases st with
      | none => exact Bool.false_ne_true
      | some c =>
        intro hh
        have : c = 0 := by simpa [rawPart, rawInt] using hh
        exact h0 (by rw [this])
    refine wpAny_bind (wpAny_bind (wpAny_field hos hds (x := vs) rfl (wpAny_bind (wpAny_listPart ps ?_))))
    rw [if_neg hstep]
    refine wpAny_bind (wpAny_field hos hds (x := vl) rfl (wpAny_bind (wpAny_listPart pl ?_)))
    refine wpAny_bind (wpAny_field hos hds (x := vu) rfl (wpAny_bind (wpAny_listPart pu (wpAny_pure ?_))))
    refine wpAny_bind (m := Builtin.List.listItems (.ref x)) ?_
    · unfold Builtin.List.listItems
      refine wpAny_bind (wpAny_seqItems ho rfl (wpAny_pure ?_))
      refine wpAny_bind (wpAny_of_eq (sliceIndices_raw lo hi st items.size h0) ?_)
      refine wpAny_bind (wpAny_newObj_type (wpAny_pure ?_) (Nat.le_trans (slicePick_size_le items lo hi st) hsz))
      exact wpAny_pure h

theorem slice_sub {h₀ : Heap} {L : Addr} {m : Str → Option Value} {news : List (Addr × Obj)} {value slice : Expr} {d : Addr} {items : Array Value} {n : Nat} {vl vu : Value} {lo hi : Option Int} {Q : Value → Shared → Prop}
    (F : Fr h₀ L s.heap m) (N : News h₀ L s.heap news) (X₀ : K.In h₀) (I : InstAt s.heap x (subO C d items n) C od) (Y : SubL K C) (pl : IsPart vl lo) (pu : IsPart vu hi)
    (h : ∀ h', Fr h₀ L h' m → News h₀ L h' ((s.heap.objs.size + 1, { cls := .type "list", data := .seq (slicePick items lo hi none) }) :: news) → Q (.ref (s.heap.objs.size + 1)) { s with heap := h' })
    (hs : subscripted slice false (.ref x) (.ref s.heap.objs.size) = operate [.ref s.heap.objs.size, .ref x] (getItem (.ref x) (.ref s.heap.objs.size)))
    (ht : ∀ r, letTemporaryGo value (.ref x) r = pure ()) (hsz : items.size ≤ sizeLine) :
    wpAny (model prog w) A (subscriptTail value slice (.ref x) (.ref s.heap.objs.size)) Q E { s with heap := s.heap.push { cls := .type "slice", data := .fields #[vl, vu, .none] } } := by
  have X : K.In (s.heap.push { cls := .type "slice", data := .fields #[vl, vu, .none] }) := (X₀.keeps F.keep).keeps fun b o e => Heap.get?_push_of_some _ e
  have I' : InstAt (s.heap.push { cls := .type "slice", data := .fields #[vl, vu, .none] }) x (subO C d items n) C od := InstAt.keeps' I fun b o e => Heap.get?_push_of_some _ e
  have gi : ∀ Q', Q' (.ref (s.heap.objs.size + 1)) { s with heap := (s.heap.push { cls := .type "slice", data := .fields #[vl, vu, .none] }).push { cls := .type "list", data := .seq (slicePick items lo hi none) } } →
      wpAny (model prog w) A (getItem (.ref x) (.ref s.heap.objs.size)) Q' E { s with heap := s.heap.push { cls := .type "slice", data := .fields #[vl, vu, .none] } } := by
    intro Q' hQ'
    refine getItem_sub_slice (s := { s with heap := s.heap.push { cls := .type "slice", data := .fields #[vl, vu, .none] } }) X I' Y (Heap.IsSliceOf.new ..) pl pu .none (by simp) ?_ hsz
    show Q' (.ref (s.heap.push _).objs.size) _
    rw [Heap.size_push]
    exact hQ'
  have N1 := News.push (F.push { cls := .type "slice", data := .fields #[vl, vu, .none] }) (N.grown fun _ _ e => Heap.get?_push_of_some _ e) { cls := .type "list", data := .seq (slicePick items lo hi none) }
  rw [Heap.size_push] at N1
  have hQ := h _ ((F.push _).push _) N1
  unfold subscriptTail
  refine wpAny_bind ?_
  unfold getitemInPython
  refine wpAny_bind (wpAny_bind (I'.type.here ((looks_findIn X Y.item).here ?_)))
  dsimp only
  have fin : wpAny (model prog w) A (subscripted slice false (.ref x) (.ref s.heap.objs.size)) (fun r s₃ => wpAny (model prog w) A (letTemporaryGo value (.ref x) r >>= fun _ => pure r) Q E s₃) E { s with heap := s.heap.push { cls := .type "slice", data := .fields #[vl, vu, .none] } } := by
    rw [hs]
    exact wpAny_operating (gi _ (wpAny_bind (wpAny_of_eq (ht _) (wpAny_pure hQ))))
  first
    | exact wpAny_pure (wpAny_bind fin)
    | exact wpAny_bind (wpAny_pure (wpAny_bind fin))
    | exact wpAny_bind fin
end
end Mine

set_option Elab.async false
namespace Mine
open PySem PySem.W PyProof.Rows
theorem kfilled6 : (hd.heap_39 = hd.heap_39) → (PySem.Challenge.rw_vz0017_01 = PySem.Challenge.rw_vz0017_01) → True := by
  k_fill
  intros; trivial

def TagZ (H : Addr → Obj → Prop) (r : Row) (v : Value) : Prop := ∃ x d C t u, v = .ref x ∧ H x (tagO C d (.int r.code t) u) ∧ H d (dictOf [] 0) ∧ RVAt H r.val u ∧ ((C = 149 ∧ r.code ≠ 1010) ∨ (C = 217 ∧ r.code = 1010))

theorem RVAt.handed {H : Addr → Obj → Prop} : ∀ {r : RV} {v : Value}, RVAt H r v → handedIn v = true
  | .str _, _, ⟨_, e⟩ => by subst e; rfl
  | .int _, _, ⟨_, e⟩ => by subst e; rfl
  | .tup _, _, ⟨_, _, _, _, _, e, _⟩ => by subst e; rfl

theorem storeAt {A : Around} {prog : Program} {w : World} {E : Value → Shared → Prop} {s : Shared} {env : Env} {x : Str} {px : Pos} {v : Value} {m : Str → Option Value} {Q : Unit → Shared → Prop}
    (hx : env.kindOf x = some .local) (hp : (env.scope.kind == .class || (env.scope.kind == .module && env.locals != env.globals)) = false) (hn : s.heap.Ns env.locals m)
    (hQ : ∀ h', h'.Ns env.locals (fun y => if y = x then some v else m y) → (∀ b o, b ≠ env.locals → s.heap.get? b = some o → h'.get? b = some o) → Q () { s with heap := h', toks := s.toks + 1 }) :
    wpAny (model prog w) A (assign (.Name x px) env v) Q E s :=
  wpAny_assign_Name (wpAny_storeName_local hx hn (fun h₄ hn₄ hs₄ => hQ h₄ hn₄ fun b o hb e => Heap.SameBut.extBut hs₄ b o hb e) hp)

theorem draw_tag {w : World} {A : Around} {E : Value → Shared → Prop} {s : Shared} {g : Heap} {env : Env} {m : Str → Option Value} {mean : ExcName → Option Value} {mg mb : Str → Option Value}
    {x₁ x₂ x₃ : Str} {px₁ px₂ px₃ pt pt2 : Pos} {b1 b2 : Nat} {e it ta : Addr} {items : Array Value} {i : Nat} {old : Value} {Zt : List (Addr × Obj)} {r : Row} {v : Value} {Qn Qs : Shared → Prop}
    (hh : A.handled = none) (hroom : A.depth + 8 < recursionLimit)
    (hx₁ : env.kindOf x₁ = some .local) (hx₂ : env.kindOf x₂ = some .local) (hx₃ : env.kindOf x₃ = some .local)
    (hp : (env.scope.kind == .class || (env.scope.kind == .module && env.locals != env.globals)) = false)
    (F : Fr g env.locals s.heap m) (X₀ : (hd.heap_39 w.params).In g) (T₀ : Top hd.view_39 lz mean mg mb g)
    (he : IsEnum s.heap e it i old) (hit : s.heap.IsListIter it ta i) (hl : IsSeq s.heap ta items) (hv : items[i]? = some v) (hei : e ≠ it) (hge : ∀ b o, g.get? b = some o → b ≠ e ∧ b ≠ it) (hLe : env.locals ≠ e) (hLi : env.locals ≠ it)
    (hta : ta ≠ env.locals ∧ ta ≠ e ∧ ta ≠ it)
    (hZ : ∀ q ∈ Zt, s.heap.get? q.1 = some q.2 ∧ q.1 ≠ env.locals ∧ q.1 ≠ e ∧ q.1 ≠ it) (hr : TagZ (InZ Zt) r v) (hok : r.Ok)
    (k : ∀ h' tk gs t t' u old', h'.Ns env.locals (fun y => if y = x₃ then some u else if y = x₂ then some (.int r.code t) else if y = x₁ then some (.int i t') else m y) → RVAt (InZ Zt) r.val u →
      IsEnum h' e it ((i + 1 : Nat) : Int) old' → h'.IsListIter it ta (i + 1) → (∀ b o, b ≠ env.locals → b ≠ e → b ≠ it → s.heap.get? b = some o → h'.get? b = some o) →
      ((∀ y ∈ s.gens, y.bare = true) → ∀ y ∈ gs, y.bare = true) → Qs { s with heap := h', toks := tk, gens := gs }) :
    Draw pw w A (.Tuple [.Name x₁ px₁, .Tuple [.Name x₂ px₂, .Name x₃ px₃] b2 pt2] b1 pt) (.ref e) env E Qn Qs s := by
  obtain ⟨x, d, C, t, u, rfl, hx, hd', hu, hC⟩ := hr
  have heH : e < s.heap.objs.size := Heap.lt_size he
  have hLH : env.locals < s.heap.objs.size := F.ns.lt
  refine enumS_item he hit hl hv hei fun h₁ heo hit₁ ht₁ hz₁ hk₁ => ?_
  refine wpAny_letOwnedTupleGo_enum heo fun h₂ he₂ hs₂ => ?_
  replace hs₂ : Heap.SameBut e h₁ h₂ := hs₂
  have ht₂ : h₂.IsTuple s.heap.objs.size #[.int i s.toks, .ref x] := ⟨_, (hs₂.2 _ (Nat.ne_of_gt heH)).trans ht₁, rfl, _, rfl⟩
  have up₂ : ∀ b o, b ≠ e → b ≠ it → s.heap.get? b = some o → h₂.get? b = some o := fun b o h2 h3 x => hs₂.extBut b o h2 (hk₁ b o h2 h3 x)
  have hn₂ : h₂.Ns env.locals m := F.ns.at' fun o e => up₂ _ o hLe hLi e
  refine wpAny_assign_Tuple hh ht₂ rfl rfl fun h₃ hx₃' => ?_
  replace hx₃' : Heap.ExtBut h₂.objs.size h₂ h₃ := hx₃'
  have old₃ : ∀ b o, h₂.get? b = some o → h₃.get? b = some o := fun b o e => hx₃' b o (Nat.ne_of_lt (Heap.lt_size e)) e
  show wpAny _ A (do holding [.ref x] (assign (.Name x₁ px₁) env (.int i s.toks)); do holding [] (assign (.Tuple [.Name x₂ px₂, .Name x₃ px₃] b2 pt2) env (.ref x)); pure ()) _ _ _
  refine wpAny_bind (wpAny_holding (storeAt hx₁ hp (hn₂.keeps old₃) fun h₄ hn₄ hk₄ => ?_))
  replace hk₄ : ∀ b o, b ≠ env.locals → h₃.get? b = some o → h₄.get? b = some o := hk₄
  have up₄ : ∀ b o, b ≠ env.locals → b ≠ e → b ≠ it → s.heap.get? b = some o → h₄.get? b = some o := fun b o h1 h2 h3 x => hk₄ b o h1 (old₃ b o (up₂ b o h2 h3 x))
  have zget : ∀ a o, (a, o) ∈ Zt → h₄.get? a = some o := fun a o h => up₄ _ _ (hZ _ h).2.1 (hZ _ h).2.2.1 (hZ _ h).2.2.2 (hZ _ h).1
  have gLne : ∀ b o, g.get? b = some o → b ≠ env.locals := fun b o hb hbl => Nat.lt_irrefl _ (Nat.lt_of_lt_of_le (hbl ▸ Heap.lt_size hb) F.above)
  have F₄ : Fr g env.locals h₄ (fun y => if y = x₁ then some (.int i s.toks) else m y) := ⟨hn₄, fun b o hb => up₄ b o (gLne b o hb) (hge b o hb).1 (hge b o hb).2 (F.keep b o hb), F.above⟩
  have I₄ : InstAt h₄ x (tagO C d (.int r.code t) u) C (some (dictOf [] 0)) := ⟨zget _ _ hx, rfl, rfl, zget _ _ hd'⟩
  refine wpAny_bind (wpAny_holding ?_)
  rw [arm_assign_Tuple]
  refine wpAny_bind (wpAny_standAt ?_)
  unfold unpack
  refine wpAny_bind (wpAny_holding (tag_unpack hh hroom F₄ X₀ T₀ I₄ ?_ rfl hu.handed fun h₅ tk₅ gs₅ hk₅ hb₅ => ?_))
  · rcases hC with ⟨h, _⟩ | ⟨h, h'⟩
    · exact .inl h
    · refine .inr ⟨h, ?_⟩
      obtain ⟨j, hj⟩ := hok.vert h'
      rw [hj] at hu
      obtain ⟨a, n, t1, t2, t3, e, ha⟩ := hu
      exact ⟨a, _, e, _, zget _ _ ha, rfl, n, rfl⟩
  replace hk₅ : ∀ b o, h₄.get? b = some o → h₅.get? b = some o := hk₅
  show wpAny _ A (do holding [u] (assign (.Name x₂ px₂) env (.int r.code t)); do holding [] (assign (.Name x₃ px₃) env u); pure ()) _ _ _
  refine wpAny_bind (wpAny_holding (storeAt hx₂ hp (hn₄.keeps hk₅) fun h₆ hn₆ hk₆ => ?_))
  refine wpAny_bind (wpAny_holding (storeAt hx₃ hp hn₆ fun h₇ hn₇ hk₇ => wpAny_pure ?_))
  replace hk₆ : ∀ b o, b ≠ env.locals → h₅.get? b = some o → h₆.get? b = some o := hk₆
  replace hk₇ : ∀ b o, b ≠ env.locals → h₆.get? b = some o → h₇.get? b = some o := hk₇
  have up₇ : ∀ b o, b ≠ env.locals → b ≠ e → b ≠ it → s.heap.get? b = some o → h₇.get? b = some o := fun b o h1 h2 h3 x => hk₇ b o h1 (hk₆ b o h1 (hk₅ b o (up₄ b o h1 h2 h3 x)))
  have up₂₇ : ∀ b o, b ≠ env.locals → h₂.get? b = some o → h₇.get? b = some o := fun b o h1 e => hk₇ b o h1 (hk₆ b o h1 (hk₅ b o (hk₄ b o h1 (old₃ b o e))))
  refine wpAny_pure (k h₇ _ gs₅ t s.toks u (.ref x) hn₇ hu ?_ ?_ up₇ hb₅)
  · rw [show (((i + 1 : Nat)) : Int) = (i : Int) + 1 by push_cast; rfl]; exact up₂₇ _ _ (Ne.symm hLe) he₂
  · exact IsListIter.at' hit₁ fun o x => up₂₇ _ _ (Ne.symm hLi) (hs₂.extBut it o (Ne.symm hei) x)
end Mine

set_option Elab.async false
namespace Mine
open PySem PySem.W PyProof.Rows PySem.Calls
set_option maxRecDepth 100000
section
variable {prog : Program} {w : World} {A : Around} {E : Value → Shared → Prop} {s : Shared} {env : Env}
variable {nm q : Str} {C N : Addr} {bs bm bmB : List Value} {hdct : Bool} {sn : List Str} {sub : List Value} {ab : Bool} {col : Option Bool} {dd : Option Addr} {k0 k1 k2 k3 k5 : Option Value} {B newId initId : String}

theorem issub_own {Q : Value → Shared → Prop} (hC : s.heap.get? C = some (excClassObj nm q C N bs bm hdct sn sub ab col dd k0 k1 k2 k3 k5 newId)) (h : Q (.bool true) s) :
    wpAny (model prog w) A (call (.builtin "issubclass") [.ref C, .ref C]) Q E s := by
  obtain ⟨hp, g, d, tk, os⟩ := s
  replace hC : hp.get? C = some (excClassObj nm q C N bs bm hdct sn sub ab col dd k0 k1 k2 k3 k5 newId) := hC
  have hcC : (Value.ref C :: bm).contains (.ref C) = true := by simp
  have g : Meets (Builtin.«issubclass» ⟨[.ref C, .ref C], []⟩) (fun _ R s => s.heap.get? C = some (excClassObj nm q C N bs bm hdct sn sub ab col dd k0 k1 k2 k3 k5 newId) ∧ R (.ok (.ret (.bool true))) s) := by
    intro _ _ _ R s hs
    obtain ⟨hp, g, d, tk, os⟩ := s
    obtain ⟨hC, hs⟩ := hs
    replace hC : hp.get? C = some (excClassObj nm q C N bs bm hdct sn sub ab col dd k0 k1 k2 k3 k5 newId) := hC
    have hT : (⟨hp, g, d, tk, os⟩ : Shared).TypeIs (.ref C) "type" := ⟨_, hC, rfl⟩
    refine issubclass_outer ?_
    repeat (any_goals (first | assumption | with_reducible refine wpAny_loadPart_at hC ?_ | (with_reducible refine wpAny_isSubtype_exc hC ?_; rw [hcC]) | wp_step))
  exact call_issubclass g ⟨hC, h⟩

theorem Raise_classO {x : Str} {np pos : Pos} {Q : Flow → Shared → Prop} (FB : ExcBaseFacts B newId initId bmB) (T : OwnTail s.heap bmB bm) {mN : Str → Option Value} (hh : A.handled = none)
    (hC : s.heap.get? C = some (excClassObj nm q C N bs bm hdct sn sub ab col dd k0 k1 k2 k3 k5 newId)) (hn : s.heap.Ns N mN) (hni : mN "__init__" = none)
    (hx : wpAny (model prog w) A (eval (.Name x np) env) (fun v s₁ => v = .ref C ∧ s₁ = s) E s)
    (h : ∀ h' e, Heap.MadeExcOf s.heap h' e (.ref C) [] → E (.ref e) { s with heap := h' }) :
    wpAny (model prog w) A (exec (.Raise (some (.Name x np)) none pos) env) Q E s := by
  obtain ⟨hp, g, d, tk, os⟩ := s
  replace hC : hp.get? C = some (excClassObj nm q C N bs bm hdct sn sub ab col dd k0 k1 k2 k3 k5 newId) := hC
  have hbase : bm.contains (.type "BaseException") = true := T.hasType FB.hasBase
  have hcB : (Value.ref C :: bm).contains (.type "BaseException") = true := by rw [List.contains_cons, hbase, Bool.or_true]
  show wpAny (model prog w) A (do standAt pos; raiseStmt env (some (do let v ← eval (.Name x np) env; standAt pos; pure v)) none) Q E _
  refine wpAny_bind (wpAny_standAt ?_)
  unfold raiseStmt
  dsimp only
  refine wpAny_bind (wpAny_bind (wpAny_mono hx (fun v s₁ h₁ => wpAny_bind (wpAny_standAt (wpAny_pure ?_))) fun _ _ e => e))
  obtain ⟨rfl, hs₁⟩ := h₁
  subst s₁
  refine wpAny_bind (wpAny_pure ?_)
  dsimp only
  refine wpAny_bind (wpAny_holding ?_)
  unfold excFromValue isExcClass
  refine wpAny_bind (wpAny_bind (m := isType (.ref C)) ?_)
  refine wpAny_bind (wpAny_loadPart_at hC (wpAny_pure ?_))
  dsimp only [excClassObj]
  simp only [if_true]
  refine wpAny_isSubtype_exc hC ?_
  rw [hcB]
  simp only [if_true]
  refine wpAny_bind (wpAny_call_exc_subT FB T hC hn hni fun h' e hm => ?_)
  obtain ⟨t, he, ht0, ht⟩ := hm.there
  have hC' := hm.keeps _ _ hC
  refine wpAny_bind (m := isInstance (.ref e) (.type "BaseException")) ?_
  unfold isInstance
  refine wpAny_bind (wpAny_bind (wpAny_loadPart_at he (wpAny_pure ?_)))
  dsimp only
  refine wpAny_isSubtype_exc hC' ?_
  rw [hcB]
  simp only [Bool.not_true, Bool.false_eq_true, if_false]
  refine wpAny_pure ?_
  refine wpAny_bind (m := isType (.ref C)) (wpAny_bind (wpAny_loadPart_at hC' (wpAny_pure ?_)))
  dsimp only [excClassObj]
  rw [if_pos rfl]
  refine wpAny_bind (wpAny_holding ?_)
  unfold raisedFor
  first | (simp only [Bool.false_eq_true, if_false]) | (rw [if_neg (by decide)]) | skip
  have hlo : ∀ {Q' : Value → Shared → Prop} {E' : Value → Shared → Prop}, Q' (.ref C) ⟨h', g, d, tk, os⟩ → wpAny (model prog w) A (typeOf (.ref e)) Q' E' ⟨h', g, d, tk, os⟩ := fun hq => wpAny_bind (wpAny_loadPart_at he (wpAny_pure hq))
  refine wpAny_bind (hlo ?_)
  refine wpAny_bind (issub_own (s := ⟨h', g, d, tk, os⟩) hC' ?_)
  first | (refine wpAny_bind (wpAny_truthy_bool ?_)) | (refine wpAny_truthy_bool ?_)
  first | (rw [if_pos rfl]) | (simp only [if_true]) | skip
  refine wpAny_pure ?_
  unfold setFlight raiseNew
  refine wpAny_bind (wpAny_bind (wpAny_field (i := 1) (x := Value.none) he rfl rfl ?_))
  rw [if_neg (by decide)]
  refine wpAny_pure (wpAny_bind (wpAny_handled ?_))
  rw [hh]
  first
    | exact wpAny_throw (h h' e hm)
    | exact wpAny_bind (wpAny_pure (wpAny_throw (h h' e hm)))
end

theorem Raise_ownC {prog : Program} {w : World} {A : Around} {E : Value → Shared → Prop} {s : Shared} {name : Str} {scope : Scope} {L a : Addr} {cd : Value} {h₀ : Heap} {m mg : Str → Option Value}
    {x : Str} {C : Addr} {B newId initId : String} {bm : List Value} {np pos : Pos} {Q : Flow → Shared → Prop} (F : Fr h₀ L s.heap m) (hg : h₀.Ns mainGlobals mg) (O : OwnCls x C bm newId mg h₀) (FB : ExcBaseFacts B newId initId bm) (hh : A.handled = none)
    (h : ∀ h' e, Heap.MadeExcOf s.heap h' e (.ref C) [] → E (.ref e) { s with heap := h' })
    (hk : scope.kind = .function) (hx : (envOf name scope L a cd).kindOf x = some .globalImplicit) (hd : (x == ("__debug__" : Str)) = false) :
    wpAny (model prog w) A (exec (.Raise (some (.Name x np)) none pos) (envOf name scope L a cd)) Q E s := by
  obtain ⟨tl, N, nm, q, bs, hdct, sn, sub, ab, col, dd, k0, k1, k2, k3, k5, mN, hC, hN, hni, T⟩ := O.obj
  exact Raise_classO FB (T.keeps F.keep) hh (F.keep _ _ hC) (hN.keeps F.keep) hni (ld_own F hg O ⟨rfl, rfl⟩ hk hx hd) h
end Mine

set_option Elab.async false
namespace Mine
open PySem PySem.W PyProof.Rows
theorem kfilled7 : (hd.heap_39 = hd.heap_39) → (PySem.Challenge.rw_vz0017_01 = PySem.Challenge.rw_vz0017_01) → True := by
  k_fill
  intros; trivial
local macro_rules | `(tactic| walk_at "stp") => `(tactic| first | (k_unfold; (try dsimp only)) | walk1 | (dsimp only; walk1))
local macro_rules | `(tactic| k_mem) => `(tactic| assumption)

local macro_rules | `(tactic| walk_at "exec Raise some none") => `(tactic| (k_here; (with_reducible show wpAny _ _ (exec (Stmt.Raise (some (Expr.Name _ _)) none _) _) _ _ _); k_dflt (refine' Raise_ownC ?F ?g ?O PySem.F.excBase_Exception ?h ?_ ?c ?d ?e; (case F => k_asm); (case g => exact TopRead.g (by k_asm)); (case O => exact own_of_in (by k_asm) (by k_asm) (by k_is) (by k_exc)); (case h => first | rfl | assumption); (case c => rfl); (case d => rfl); (case e => decide); k_whole)))

def isS (x : Str) (r : Row) : Bool := decide (r.code = 1000) && (match r.val with | .str y => decide (y = x) | _ => false)
noncomputable def findR (b e : Str) : List Row → Nat → Option Nat → Option Nat × Option Nat
  | [], _, st => (st, none)
  | r :: rs, i, st => if isS b r then findR b e rs (i + 1) (some i) else if isS e r then (st, some (i + 1)) else findR b e rs (i + 1) st
noncomputable def toldR (rows : List Row) (name : Str) : Res := match findR (name ++ Str.ofString "_BEGIN") (name ++ Str.ofString "_END") rows 0 none with
  | (none, none) => .nf
  | (some s, some e) => .at s e
  | _ => .bad
def stV : Option Nat → Value → Prop
  | none, v => v = .none
  | some j, v => ∃ t, v = .int (j : Int) t
def Stop (P : Prop) : Prop := P
theorem wpAny_stop {α : Type} {M : Model} {A : Around} {t : Sem α} {Q : α → Shared → Prop} {E : Value → Shared → Prop} {s : Shared} (h : wpAny M A t (fun a s' => Stop (Q a s')) E s) : wpAny M A t Q E s := h
theorem stop_in {P : Prop} (h : P) : Stop P := h
theorem ne_of_beq_false {x y : Str} (h : (x == y) = false) : ¬ x = y := fun e => by subst e; simp at h
theorem upd_eq {m : Str → Option Value} {x : Str} {v : Value} (h : m x = some v) : m = fun y => if y = x then some v else m y := by
  funext y
  by_cases e : y = x
  · rw [if_pos e, e, h]
  · rw [if_neg e]

set_option maxRecDepth 100000 in
set_option maxHeartbeats 8000000 in
theorem told_call {w : World} {h₀ : Heap} {L : Addr} {m : Str → Option Value} {s : Shared} {Z : List (Addr × Obj)} {fa : Addr} {cd : Value} {mean : ExcName → Option Value} {mg mb : Str → Option Value}
  (B : Below callerA h₀ [] h₀) (F : Fr h₀ L s.heap m) (KX : (hd.heap_39 w.params).In h₀) (N : News h₀ L s.heap Z) (T : Top hd.view_39 lz mean mg mb h₀)
  {ta td : Addr} {no : Nat} {vs : List Value} {rows : List Row} {name : Str} {tn : Tok} (hta : (ta, subO 429 td vs.toArray no) ∈ Z) (htd : (td, dictOf [] 0) ∈ Z)
  (hrows : Paired (TagZ (InZ Z)) rows vs) (hok : ∀ r ∈ rows, r.Ok) (hlen : rows.length ≤ 40) (hname : name.length ≤ 16) (hkE : PyData.strOk (name ++ Str.ofString "_END") = true) (hkB : PyData.strOk (name ++ Str.ofString "_BEGIN") = true)
  {R : Result → Shared → Prop} (k : ∀ v h' tk gs Zn, Fr h₀ L h' m → News h₀ L h' (Zn ++ Z) → ResAt (InZ Zn) (toldR rows name) v → ((∀ y ∈ s.gens, y.bare = true) → ∀ y ∈ gs, y.bare = true) → R (.ok (.ret v)) {s with heap := h', toks := tk, gens := gs}) :
  codeAny (model pw w) (A1 L fa cd) (.call (.ref 467) ⟨[.str name tn, .ref ta], []⟩) R s := by
  have hsz : vs.toArray.size ≤ sizeLine := by
    have := hrows.length
    rw [List.size_toArray, sizeLine_eq]; omega
  kts_go
  repeat' (walk_at "stp")
  with_reducible rename Fr _ _ _ _ => F1
  with_reducible rename News _ _ _ _ => N1
  rename_i g2 L2 hh0 FG2 B2 X2 T2 tB kB aB h1 tE kE aE h2 h3 h4
  refine wpAny_noRaise (wpAny_mono (show wpAny _ _ _ (fun f s' => f = Flow.next ∧ ∃ h' tk gs m' a b va vb, s' = { s with heap := h', toks := tk, gens := gs } ∧ Fr g2 L2 h' m' ∧ News g2 L2 h' Z ∧ ((∀ y ∈ s.gens, y.bare = true) → ∀ y ∈ gs, y.bare = true) ∧
    m' (Str.ofString "begin_name") = some (.str (name ++ Str.ofString "_BEGIN") tB) ∧ m' (Str.ofString "end_name") = some (.str (name ++ Str.ofString "_END") tE) ∧ m' (Str.ofString "start") = some va ∧ m' (Str.ofString "end") = some vb ∧
    stV a va ∧ stV b vb ∧ findR (name ++ Str.ofString "_BEGIN") (name ++ Str.ofString "_END") rows 0 none = (a, b)) (fun _ _ => False) _ from ?loop) (fun f s' hf => ?rest) fun _ _ e => e)
  case loop =>
    refine wpAny_For ?_ (by intro _; rfl)
    walk_at "stp"
    walk_at "stp"
    walk_at "stp"
    walk_at "stp"
    walk_at "stp"
    walk_at "stp"
    have hN : ∀ q ∈ Z, h4.get? q.1 = some q.2 ∧ q.1 ≠ L2 := fun q hq => ⟨(N1 q hq).1, (N1 q hq).2.1⟩
    have hsize : vs.length = rows.length := hrows.length.symm
    refine call_enumerate_sub (K := hd.heap_39 w.params) (C := 429) (od := some (dictOf [] 0)) (d := td) (items := vs.toArray) (n := no) (X2.keeps F1.keep) ⟨(hN _ hta).1, rfl, rfl, (hN _ htd).1⟩ tagsSub fun h5 he0 hit0 hz0 hk0 => ?_
    replace he0 : IsEnum h5 (h4.objs.size + 1) h4.objs.size 0 .none := he0
    replace hit0 : h5.IsListIter h4.objs.size ta 0 := hit0
    replace hk0 : ∀ b o, h4.get? b = some o → h5.get? b = some o := hk0
    have hL2 : L2 < h4.objs.size := F1.ns.lt
    have hge : ∀ b o, g2.get? b = some o → b ≠ h4.objs.size + 1 ∧ b ≠ h4.objs.size := fun b o hb => by
      have h1 : b < h4.objs.size := Heap.lt_size (F1.keep b o hb)
      exact ⟨Nat.ne_of_lt (Nat.lt_succ_of_lt h1), Nat.ne_of_lt h1⟩
    have hgone : g2.get? (h4.objs.size + 1) = none := by
      cases hq : g2.get? (h4.objs.size + 1) with
      | none => rfl
      | some o => exact ((hge _ o hq).1 rfl).elim
    have hgone' : g2.get? h4.objs.size = none := by
      cases hq : g2.get? h4.objs.size with
      | none => rfl
      | some o => exact ((hge _ o hq).2 rfl).elim
    have hZl : ∀ q ∈ Z, q.1 < h4.objs.size := fun q hq => Heap.lt_size (hN q hq).1
    refine wpAny_pyIter_enum he0 ?_
    refine codeAny_forLoop_any (fun n s' => ∃ h' tk gs m' i st va old, s' = { s with heap := h', toks := tk, gens := gs } ∧ Fr g2 L2 h' m' ∧ (∀ q ∈ Z, h'.get? q.1 = some q.2) ∧ ((∀ y ∈ s.gens, y.bare = true) → ∀ y ∈ gs, y.bare = true) ∧
      m' (Str.ofString "begin_name") = some (.str (name ++ Str.ofString "_BEGIN") tB) ∧ m' (Str.ofString "end_name") = some (.str (name ++ Str.ofString "_END") tE) ∧ m' (Str.ofString "start") = some va ∧ m' (Str.ofString "end") = some .none ∧
      stV st va ∧ IsEnum h' (h4.objs.size + 1) h4.objs.size ((i : Nat) : Int) old ∧ h'.IsListIter h4.objs.size ta i ∧ i ≤ rows.length ∧ n = rows.length + 1 - i ∧
      findR (name ++ Str.ofString "_BEGIN") (name ++ Str.ofString "_END") (rows.drop i) i st = findR (name ++ Str.ofString "_BEGIN") (name ++ Str.ofString "_END") rows 0 none) ?turn (rows.length + 1) ?init
    case init =>
      exact ⟨h5, _, s.gens, _, 0, none, .none, .none, rfl, F1.after hk0, fun q hq => hk0 _ _ (hN q hq).1, fun h => h, rfl, rfl, rfl, rfl, rfl, he0, hit0, Nat.zero_le _, rfl, rfl⟩
    case turn =>
      rintro n s' ⟨h6, tk6, gs6, m6, i, st, va, old, rfl, F6, Z6, hb6, hm1, hm2, hm3, hm4, hst, he6, hit6, hi6, rfl, hf6⟩
      have hl6 : IsSeq h6 ta vs.toArray := ⟨_, _, Z6 _ hta, rfl⟩
      by_cases hlt : i < rows.length
      · have hv : vs.toArray[i]? = some vs[i] := by simp [hsize, hlt]
        obtain ⟨r, hr, hrZ⟩ := pairedGet hrows (i := i) (b := vs[i]) (by simp [hsize, hlt])
        have hrok := hok r (List.mem_of_getElem? hr)
        refine draw_tag (mean := mean) (mg := mg) (mb := mb) (Zt := Z) (r := r) rfl (of_decide_eq_true rfl) rfl rfl rfl rfl F6 X2 T2 he6 hit6 hl6 hv (Nat.ne_of_gt (Nat.lt_succ_self _)) hge (Nat.ne_of_lt (Nat.lt_succ_of_lt hL2)) (Nat.ne_of_lt hL2)
          ⟨(hN _ hta).2, Nat.ne_of_lt (Nat.lt_succ_of_lt (hZl _ hta)), Nat.ne_of_lt (hZl _ hta)⟩ (fun q hq => ⟨Z6 q hq, (hN q hq).2, Nat.ne_of_lt (Nat.lt_succ_of_lt (hZl q hq)), Nat.ne_of_lt (hZl q hq)⟩) hrZ hrok fun h7 tk7 gs7 t7 t7' u7 old7 hn7 hu7 he7 hit7 hk7 hb7 => ?_
        replace hn7 : h7.Ns L2 (fun y => if y = Str.ofString "value" then some u7 else if y = Str.ofString "code" then some (.int r.code t7) else if y = Str.ofString "index" then some (.int i t7') else m6 y) := hn7
        rw [upd_eq hm1] at hn7; rw [upd_eq hm2] at hn7; rw [upd_eq hm3] at hn7; rw [upd_eq hm4] at hn7
        dsimp only at hn7
        replace hk7 : ∀ b o, b ≠ L2 → b ≠ h4.objs.size + 1 → b ≠ h4.objs.size → h6.get? b = some o → h7.get? b = some o := hk7
        replace hb7 : (∀ y ∈ gs6, y.bare = true) → ∀ y ∈ gs7, y.bare = true := hb7
        have F7 := (⟨hn7, fun b o hb => hk7 b o (fun e => Nat.lt_irrefl _ (Nat.lt_of_lt_of_le (e ▸ Heap.lt_size hb) F6.above)) (hge b o hb).1 (hge b o hb).2 (F6.keep b o hb), F6.above⟩ : Fr g2 L2 h7 _)
        obtain ⟨oi, hoi, hoir⟩ := hit7
        have N7 : News g2 L2 h7 ((h4.objs.size + 1, _) :: (h4.objs.size, oi) :: Z) := fun q hq => by
          rcases List.mem_cons.mp hq with rfl | hq
          · exact ⟨he7, Nat.ne_of_gt (Nat.lt_succ_of_lt hL2), hgone⟩
          rcases List.mem_cons.mp hq with rfl | hq
          · exact ⟨hoi, Nat.ne_of_gt hL2, hgone'⟩
          exact ⟨hk7 _ _ (hN q hq).2 (Nat.ne_of_lt (Nat.lt_succ_of_lt (hZl q hq))) (Nat.ne_of_lt (hZl q hq)) (Z6 q hq), (N1 q hq).2⟩
        have hdrop : rows.drop i = r :: rows.drop (i + 1) := by
          rw [List.drop_eq_getElem_cons hlt]; rw [List.getElem?_eq_getElem hlt] at hr; cases hr; rfl
        rw [hdrop] at hf6
        clear hn7 F6 hit0 he0 hk0 he6 hit6 hl6 hv F1 N1 hm1 hm2 hm3 hm4
        refine wpAny_stop ?_
        by_cases hc : r.code = 1000
        · obtain ⟨x, hx⟩ := hrok.text hc
          obtain ⟨rc, rv⟩ := r
          replace hc : rc = 1000 := hc
          replace hx : rv = .str x := hx
          subst hc hx
          obtain ⟨tu, rfl⟩ := hu7
          dsimp only at F7
          repeat' (walk_at "stp")
          · with_reducible rename (_ == _) = true => ha
            with_reducible rename Fr _ _ _ _ => F8
            with_reducible rename News _ _ _ _ => N8
            refine stop_in (P := ∃ m, m < rows.length + 1 - i ∧ _) ⟨rows.length + 1 - (i + 1), by omega, _, _, gs7, _, i + 1, some i, _, old7, rfl, F8, fun q hq => (N8 q (List.mem_cons_of_mem _ (List.mem_cons_of_mem _ hq))).1, fun h => hb7 (hb6 h), rfl, rfl, rfl, rfl, ⟨_, rfl⟩, (N8 _ (.head _)).1, ⟨oi, (N8 _ (List.mem_cons_of_mem _ (.head _))).1, hoir⟩, hlt, rfl, ?_⟩
            rw [← hf6]
            simp [findR, isS, eq_of_beq ha]
          · dsimp only
            with_reducible rename (_ == _) = true => ha
            with_reducible rename (_ == _) = false => hb
            with_reducible rename Fr _ _ _ _ => F8
            with_reducible rename News _ _ _ _ => N8
            refine stop_in (P := _ ∧ _) ⟨rfl, _, _, gs7, _, st, some (i + 1), _, _, rfl, F8, fun q hq => N8 q (List.mem_cons_of_mem _ (List.mem_cons_of_mem _ hq)), fun h => hb7 (hb6 h), rfl, rfl, rfl, rfl, hst, ⟨_, rfl⟩, ?_⟩
            rw [← hf6]
            have hb' := ne_of_beq_false hb
            rw [eq_of_beq ha] at hb' ⊢
            simp [findR, isS, hb']
          · with_reducible rename (_ == _ ++ Str.ofString "_END") = false => ha
            with_reducible rename (_ == _ ++ Str.ofString "_BEGIN") = false => hb
            refine stop_in (P := ∃ m, m < rows.length + 1 - i ∧ _) ⟨rows.length + 1 - (i + 1), by omega, _, _, gs7, _, i + 1, st, va, old7, rfl, F7, fun q hq => (N7 q (List.mem_cons_of_mem _ (List.mem_cons_of_mem _ hq))).1, fun h => hb7 (hb6 h), rfl, rfl, rfl, rfl, hst, (N7 _ (.head _)).1, ⟨oi, (N7 _ (List.mem_cons_of_mem _ (.head _))).1, hoir⟩, hlt, rfl, ?_⟩
            rw [← hf6]
            simp [findR, isS, ne_of_beq_false ha, ne_of_beq_false hb]
        · repeat' (walk_at "stp")
          all_goals first | (exfalso; exact hc (by assumption)) | skip
          refine stop_in (P := ∃ m, m < rows.length + 1 - i ∧ _) ⟨rows.length + 1 - (i + 1), by omega, _, _, gs7, _, i + 1, st, va, old7, rfl, F7, fun q hq => (N7 q (List.mem_cons_of_mem _ (List.mem_cons_of_mem _ hq))).1, fun h => hb7 (hb6 h), rfl, rfl, rfl, rfl, hst, (N7 _ (.head _)).1, ⟨oi, (N7 _ (List.mem_cons_of_mem _ (.head _))).1, hoir⟩, hlt, rfl, ?_⟩
          rw [← hf6]
          simp [findR, isS, hc]
      · obtain rfl : i = rows.length := Nat.le_antisymm hi6 (Nat.not_lt.mp hlt)
        refine enumS_end rfl he6 hit6 hl6 (by simp [hsize]) fun h7 hk7 => ?_
        replace hk7 : Heap.ExtBut h4.objs.size h6 h7 := hk7
        rw [List.drop_length] at hf6
        refine wpAny_execs_nil ⟨rfl, h7, _, gs6, m6, st, none, va, .none, rfl, ⟨F6.ns.at' fun o e => hk7 _ _ (Nat.ne_of_lt hL2) e, fun b o hb => hk7 _ _ (hge b o hb).2 (F6.keep b o hb), F6.above⟩,
          fun q hq => ⟨hk7 _ _ (Nat.ne_of_lt (hZl q hq)) (Z6 q hq), (N1 q hq).2⟩, hb6, hm1, hm2, hm3, hm4, hst, rfl, hf6.symm⟩
  case rest =>
    obtain ⟨rfl, h7, tk7, gs7, m7, a, b, va, vb, rfl, F7, N7, hb7, hm1, hm2, hm3, hm4, ha, hb, hf⟩ := hf
    rw [upd_eq hm1] at F7; rw [upd_eq hm2] at F7; rw [upd_eq hm3] at F7; rw [upd_eq hm4] at F7
    dsimp only at F7
    clear F1 N1 hm1 hm2 hm3 hm4
    have hR : toldR rows name = match (a, b) with
      | (none, none) => .nf
      | (some s, some e) => .at s e
      | _ => .bad := by unfold toldR; rw [hf]
    rw [hR] at k
    clear hR
    cases a with
    | none =>
      replace ha : va = .none := ha
      subst ha
      cases b with
      | none =>
        replace hb : vb = .none := hb
        subst hb
        repeat' (walk_at "stp")
        all_goals ((with_reducible rename Fr h₀ _ _ _ => kF); (with_reducible rename News h₀ _ _ _ => kN); refine k _ _ _ _ [] kF kN ⟨_, rfl⟩ hb7)
      | some j2 =>
        obtain ⟨t2, rfl⟩ := hb
        repeat' (walk_at "stp")
        all_goals ((with_reducible rename Fr h₀ _ _ _ => kF); (with_reducible rename News h₀ _ _ _ => kN); refine k _ _ _ _ [] kF kN ⟨_, rfl⟩ hb7)
    | some j =>
      obtain ⟨t1, rfl⟩ := ha
      cases b with
      | none =>
        replace hb : vb = .none := hb
        subst hb
        repeat' (walk_at "stp")
        all_goals ((with_reducible rename Fr h₀ _ _ _ => kF); (with_reducible rename News h₀ _ _ _ => kN); refine k _ _ _ _ [] kF kN ⟨_, rfl⟩ hb7)
      | some j2 =>
        obtain ⟨t2, rfl⟩ := hb
        repeat' (walk_at "stp")
        all_goals ((with_reducible rename Fr h₀ _ _ _ => kF); (with_reducible rename News h₀ _ _ _ => kN); refine k _ _ _ _ [_] kF kN ⟨_, _, _, _, rfl, .head _⟩ hb7)
end Mine

set_option Elab.async false
namespace Mine
open PySem PySem.W PyProof.Rows

theorem isT_isS {x : Str} (r : Row) : isT x r = isS x r := by
  obtain ⟨c, v⟩ := r
  unfold isT isS
  cases v <;> simp [Row.py, RV.py, PyData.eqv, PyData.eqvAll]
  rw [Bool.eq_iff_iff]; simp

noncomputable def idx (p : Row → Bool) : List Row → Nat → List Nat
  | [], _ => []
  | r :: rs, i => if p r then i :: idx p rs (i + 1) else idx p rs (i + 1)
theorem idx_ge {p : Row → Bool} : ∀ {rs : List Row} {i k : Nat}, k ∈ idx p rs i → i ≤ k
  | [], _, _, h => by simp [idx] at h
  | r :: rs, i, k, h => by
    unfold idx at h
    split at h
    · rcases List.mem_cons.mp h with rfl | h
      · exact Nat.le_refl _
      · exact Nat.le_of_succ_le (idx_ge h)
    · exact Nat.le_of_succ_le (idx_ge h)
theorem idx_snoc {p : Row → Bool} : ∀ {rs : List Row} {r : Row} {i : Nat}, idx p (rs ++ [r]) i = idx p rs i ++ (if p r then [i + rs.length] else [])
  | [], r, i => by cases h : p r <;> simp [idx, h]
  | q :: rs, r, i => by
    have := idx_snoc (p := p) (rs := rs) (r := r) (i := i + 1)
    simp only [List.cons_append, idx, this, List.length_cons]
    rw [show i + 1 + rs.length = i + (rs.length + 1) by omega]
    cases p q <;> simp
theorem range_idx {x : Str} {rows : List Row} : ∀ {n : Nat}, n ≤ rows.length → (List.range n).filter (fun i => isAt rows x i) = idx (isS x) (rows.take n) 0
  | 0, _ => by simp [idx]
  | n + 1, h => by
    rw [range_filter_succ, range_idx (Nat.le_of_succ_le h), List.take_succ_eq_append_getElem h, idx_snoc]
    have hl : (rows.take n).length = n := by rw [List.length_take]; omega
    rw [hl]
    simp [isAt, List.getElem?_eq_getElem h, isT_isS]
theorem range_idx' {x : Str} {rows : List Row} : (List.range rows.length).filter (fun i => isAt rows x i) = idx (isS x) rows 0 := by
  rw [range_idx (Nat.le_refl _), List.take_length]

def lastIn (st : Option Nat) (l : List Nat) : Option Nat := l.foldl (fun _ x => some x) st
theorem findR_eq {B E : Str} (hBE : B ≠ E) : ∀ {rows : List Row} {i : Nat} {st : Option Nat}, findR B E rows i st =
    match (idx (isS E) rows i).head? with
    | none => (lastIn st (idx (isS B) rows i), none)
    | some j => (lastIn st ((idx (isS B) rows i).filter fun k => decide (k < j)), some (j + 1))
  | [], i, st => by simp [findR, idx, lastIn]
  | r :: rs, i, st => by
    have ih := fun st' => findR_eq hBE (rows := rs) (i := i + 1) (st := st')
    unfold findR
    cases hb : isS B r with
    | true =>
      have he : isS E r = false := by
        cases he : isS E r with
        | false => rfl
        | true =>
          exfalso
          unfold isS at hb he
          cases hv : r.val <;> simp [hv] at hb he
          exact hBE (hb.2.symm.trans he.2)
      rw [if_pos rfl, ih]
      simp only [idx, hb, he, if_true, Bool.false_eq_true, if_false]
      cases hj : (idx (isS E) rs (i + 1)).head? with
      | none => simp [lastIn]
      | some j =>
        have : i < j := idx_ge (List.mem_of_mem_head? hj)
        simp [lastIn, this]
    | false =>
      rw [if_neg (by simp)]
      cases he : isS E r with
      | true =>
        simp only [if_true, idx, hb, he, Bool.false_eq_true, if_false, List.head?_cons]
        have : (idx (isS B) rs (i + 1)).filter (fun k => decide (k < i)) = [] := by
          rw [List.filter_eq_nil_iff]
          intro k hk
          have := idx_ge hk
          simp; omega
        rw [this]; rfl
      | false =>
        rw [if_neg (by simp), ih]
        simp only [idx, hb, he, Bool.false_eq_true, if_false]

theorem lastIn_some {l : List Nat} : ∀ {st : Option Nat} {b : Nat}, lastIn st (b :: l) = some ((b :: l).getLast (List.cons_ne_nil _ _)) := by
  induction l with
  | nil => intro st b; rfl
  | cons c l ih =>
    intro st b
    show lastIn (some b) (c :: l) = _
    rw [ih]
    exact (congrArg some (List.getLast_cons (List.cons_ne_nil c l))).symm
theorem getD_last {b : Nat} {l : List Nat} : ((b :: l).map Int.ofNat).getD (-1 + (((b :: l).map Int.ofNat).length : Int)).toNat 0 = (((b :: l).getLast (List.cons_ne_nil _ _) : Nat) : Int) := by
  have h : (-1 + (((b :: l).map Int.ofNat).length : Int)).toNat = (b :: l).length - 1 := by simp only [List.length_map, List.length_cons]; omega
  rw [h, List.getD_eq_getElem?_getD, List.getElem?_map, List.getLast_eq_getElem, List.getElem?_eq_getElem (by simp)]
  rfl

theorem begins_idx {rows : List Row} {x : Str} {e : List Nat} : beginsOf rows x (e.map Int.ofNat) = ((match e with | [] => idx (isS x) rows 0 | j :: _ => (idx (isS x) rows 0).filter fun k => decide (k < j)).map Int.ofNat) := by
  unfold beginsOf beginAt
  cases e with
  | nil => simp only [List.map_nil, Bool.and_true]; rw [range_idx']
  | cons j t =>
    simp only [List.map_cons]
    rw [← range_idx', List.filter_filter]
    congr 1
    refine List.filter_congr fun i _ => ?_
    rw [Bool.and_comm]
    congr 1
    simp only [decide_eq_decide]
    show ((i : Int) < (j : Int)) ↔ _
    omega
theorem str_append_length (x y : Str) : (x ++ y).length = x.length + y.length := by
  show (x ++ y).cps.size = _
  simp only [HAppend.hAppend, Append.append, Str.length]
  simp [Str.append]
theorem names_ne (name : Str) : name ++ Str.ofString "_BEGIN" ≠ name ++ Str.ofString "_END" := fun h => by
  have := congrArg Str.length h
  rw [str_append_length, str_append_length] at this
  have h1 : (Str.ofString "_BEGIN").length = 6 := by decide
  have h2 : (Str.ofString "_END").length = 4 := by decide
  omega
theorem told_due (rows : List Row) (name : Str) : toldR rows name = dueR rows name := by
  unfold toldR dueR
  rw [findR_eq (names_ne name)]
  have hE : endsOf rows (name ++ Str.ofString "_END") = (idx (isS (name ++ Str.ofString "_END")) rows 0).map Int.ofNat := by unfold endsOf; rw [range_idx']
  simp only [hE, begins_idx]
  cases he : idx (isS (name ++ Str.ofString "_END")) rows 0 with
  | nil =>
    simp only [List.head?_nil, List.map_nil]
    cases hb : idx (isS (name ++ Str.ofString "_BEGIN")) rows 0 with
    | nil => rfl
    | cons b l => rw [lastIn_some]; rfl
  | cons j t =>
    simp only [List.head?_cons]
    cases hb : (idx (isS (name ++ Str.ofString "_BEGIN")) rows 0).filter fun k => decide (k < j) with
    | nil => rfl
    | cons b l =>
      rw [lastIn_some]
      show Res.at _ _ = Res.at ((List.map Int.ofNat (b :: l)).getD (-1 + ((List.map Int.ofNat (b :: l)).length : Int)).toNat 0) _
      rw [getD_last]
      rfl

theorem findR_skip {B E : Str} {en : Row} (h1 : isS E en = true) (h2 : isS B en = false) : ∀ {mid post : List Row} {i : Nat} {st : Option Nat}, (∀ r ∈ mid, isS B r = false ∧ isS E r = false) → findR B E (mid ++ en :: post) i st = (st, some (i + mid.length + 1))
  | [], post, i, st, _ => by simp [findR, h1, h2]
  | r :: mid, post, i, st, h => by
    obtain ⟨hb, he⟩ := h r (List.mem_cons_self ..)
    simp only [List.cons_append, findR, hb, he, Bool.false_eq_true, if_false]
    rw [findR_skip h1 h2 fun r hr => h r (List.mem_cons_of_mem _ hr)]
    simp only [List.length_cons]
    congr 2; omega
theorem findR_parts {B E : Str} : ∀ {rows : List Row} {i : Nat} {st a : Option Nat} {t : Nat}, findR B E rows i st = (a, some t) →
    (a = st ∧ ∃ mid en post, rows = mid ++ en :: post ∧ (∀ r ∈ mid, isS B r = false ∧ isS E r = false) ∧ isS E en = true ∧ isS B en = false ∧ t = i + mid.length + 1) ∨
    (∃ pre bg mid en post, rows = pre ++ bg :: (mid ++ en :: post) ∧ isS B bg = true ∧ (∀ r ∈ mid, isS B r = false ∧ isS E r = false) ∧ isS E en = true ∧ isS B en = false ∧ a = some (i + pre.length) ∧ t = i + pre.length + mid.length + 2)
  | [], i, st, a, t, h => by simp [findR] at h
  | r :: rs, i, st, a, t, h => by
    unfold findR at h
    cases hb : isS B r with
    | true =>
      rw [hb, if_pos rfl] at h
      rcases findR_parts h with ⟨h1, mid, en, post, h2, h3, h4, h5, h6⟩ | ⟨pre, bg, mid, en, post, h2, h3, h4, h5, h6, h7, h8⟩
      · exact .inr ⟨[], r, mid, en, post, by rw [h2]; rfl, hb, h3, h4, h5, by rw [h1]; rfl, by simp only [List.length_nil]; omega⟩
      · exact .inr ⟨r :: pre, bg, mid, en, post, by rw [h2]; rfl, h3, h4, h5, h6, by rw [h7, List.length_cons]; congr 1; omega, by rw [List.length_cons]; omega⟩
    | false =>
      rw [hb, if_neg (by simp)] at h
      cases he : isS E r with
      | true =>
        rw [he, if_pos rfl] at h
        obtain ⟨rfl, h⟩ := Prod.mk.inj h
        cases h
        exact .inl ⟨rfl, [], r, rs, rfl, (by simp), he, hb, rfl⟩
      | false =>
        rw [he, if_neg (by simp)] at h
        rcases findR_parts h with ⟨h1, mid, en, post, h2, h3, h4, h5, h6⟩ | ⟨pre, bg, mid, en, post, h2, h3, h4, h5, h6, h7, h8⟩
        · exact .inl ⟨h1, r :: mid, en, post, by rw [h2]; rfl, fun q hq => by
            rcases List.mem_cons.mp hq with rfl | hq
            · exact ⟨hb, he⟩
            · exact h3 q hq, h4, h5, by rw [List.length_cons]; omega⟩
        · exact .inr ⟨r :: pre, bg, mid, en, post, by rw [h2]; rfl, h3, h4, h5, h6, by rw [h7, List.length_cons]; congr 1; omega, by rw [List.length_cons]; omega⟩

/-- what stands between the marks is told again, from nought -/
theorem told_inner {rows : List Row} {name : Str} {b e : Int} (h : dueR rows name = .at b e) :
    0 ≤ b ∧ b < e ∧ e ≤ rows.length ∧ toldR ((rows.drop b.toNat).take (e.toNat - b.toNat)) name = .at 0 (e - b) := by
  rw [← told_due] at h
  unfold toldR at h
  split at h
  · cases h
  · rename_i s t hf
    cases h
    rcases findR_parts hf with ⟨h1, _⟩ | ⟨pre, bg, mid, en, post, h2, h3, h4, h5, h6, h7, h8⟩
    · cases h1
    · have hs : s = pre.length := by have := Option.some.inj h7; omega
      subst hs
      have hl : rows.length = pre.length + mid.length + 2 + post.length := by rw [h2]; simp only [List.length_append, List.length_cons]; omega
      refine ⟨by omega, by omega, by omega, ?_⟩
      have hd : rows.drop pre.length = bg :: (mid ++ en :: post) := by rw [h2, List.drop_left]
      have ht : (rows.drop pre.length).take (t - pre.length) = bg :: (mid ++ en :: []) := by
        rw [hd, show t - pre.length = (mid.length + 1) + 1 by omega, List.take_succ_cons, List.take_append]
        rw [List.take_of_length_le (by omega), show mid.length + 1 - mid.length = 1 by omega]
        rfl
      simp only [Int.toNat_natCast]
      rw [ht]
      unfold toldR
      simp only [findR, h3, if_true]
      rw [findR_skip h5 h6 h4]
      show Res.at _ _ = Res.at _ _
      congr 1
      omega
  · cases h
end Mine

set_option Elab.async false
namespace Mine
open PySem PySem.W PyProof.Rows
section
variable {prog : Program} {w : World} {A : Around} {E : Value → Shared → Prop} {s : Shared}
theorem sub_idx {value slice : PySem.Expr} {l : Addr} {items : Array Value} {k : Int} {t : Tok} {x : Value} {Q : Value → Shared → Prop} (hl : s.heap.IsList l items) (h0 : 0 ≤ k) (hfit : k < 2 ^ 63) (hx : items[k.toNat]? = some x)
    (hs : subscripted slice false (.ref l) (.int k t) = operate [.ref l, .int k t] (getItem (.ref l) (.int k t))) (h : Q x s) : wpAny (model prog w) A (subscriptTail value slice (.ref l) (.int k t)) Q E s := by
  unfold subscriptTail
  refine wpAny_bind ?_
  rw [getitemInPython_of_ne hl.typeIs.not_modules]
  refine wpAny_bind (wpAny_specialOf hl.typeIs list_getitem_lookup ?_)
  have fin : wpAny (model prog w) A (subscripted slice false (.ref l) (.int k t)) (fun r s₃ => wpAny (model prog w) A (letTemporaryGo value (.ref l) r >>= fun _ => pure r) Q E s₃) E s := by
    rw [hs]
    exact wpAny_operating (wpAny_getItem_list hl h0 hfit hx (wpAny_bind (wpAny_letTemporaryGo (wpAny_pure h))))
  first
    | exact wpAny_pure (wpAny_bind fin)
    | exact wpAny_bind (wpAny_pure (wpAny_bind fin))
    | exact wpAny_bind fin
end
theorem three {k : Int} (h : 0 ≤ k ∧ k < 3) : k = 0 ∨ k = 1 ∨ k = 2 := by omega
theorem twelve {k : Int} (h : 0 ≤ k ∧ k < 12) : k = 0 ∨ k = 1 ∨ k = 2 ∨ k = 3 ∨ k = 4 ∨ k = 5 ∨ k = 6 ∨ k = 7 ∨ k = 8 ∨ k = 9 ∨ k = 10 ∨ k = 11 := by omega
theorem fmod_in (a b : Int) (h : 0 < b) : 0 ≤ a.fmod b ∧ a.fmod b < b := ⟨Int.fmod_nonneg_of_pos _ h, Int.fmod_lt_of_pos _ h⟩
theorem fmod12 (a : Int) : (a.fmod 12).toNat < 12 := by
  have := fmod_in a 12 (by decide)
  generalize a.fmod 12 = k at this ⊢
  omega
theorem fmod12' (a : Int) : a.fmod 12 < 2 ^ 63 := by
  have := fmod_in a 12 (by decide)
  generalize a.fmod 12 = k at this ⊢
  omega
theorem codes {t1 t2 t3 t4 t5 t6 : Tok} {k : Int} (h : 0 ≤ k ∧ k < 6) : ∃ c t, (#[.int 1000 t1, .int 1 t2, .int 1003 t3, .int 1005 t4, .int 999 t5, .int 1001 t6] : Array Value)[k.toNat]? = some (.int c t) ∧ c ≠ 1010 ∧ c ≤ 1005 ∧ 1 ≤ c := by
  have : k = 0 ∨ k = 1 ∨ k = 2 ∨ k = 3 ∨ k = 4 ∨ k = 5 := by omega
  rcases this with rfl | rfl | rfl | rfl | rfl | rfl <;> exact ⟨_, _, rfl, by decide, by decide, by decide⟩
section
variable {prog : Program} {w : World} {A : Around} {E : Value → Shared → Prop} {s : Shared}
theorem sub_codes {value slice : PySem.Expr} {l : Addr} {t1 t2 t3 t4 t5 t6 : Tok} {k : Int} {t : Tok} {Q : Value → Shared → Prop} (hl : s.heap.IsList l #[.int 1000 t1, .int 1 t2, .int 1003 t3, .int 1005 t4, .int 999 t5, .int 1001 t6]) (hk : 0 ≤ k ∧ k < 6)
    (hs : subscripted slice false (.ref l) (.int k t) = operate [.ref l, .int k t] (getItem (.ref l) (.int k t))) (h : ∀ c tc, c ≠ 1010 → c ≤ 1005 → 1 ≤ c → Q (.int c tc) s) : wpAny (model prog w) A (subscriptTail value slice (.ref l) (.int k t)) Q E s := by
  obtain ⟨c, tc, hx, h1, h2, h3⟩ := codes (t1 := t1) (t2 := t2) (t3 := t3) (t4 := t4) (t5 := t5) (t6 := t6) hk
  exact sub_idx hl hk.1 (by omega) hx hs (h c tc h1 h2 h3)
end

theorem RowsZ.mono {Z Z' : List (Addr × Obj)} (hs : ∀ q ∈ Z, q ∈ Z') {rows : List Row} {vs : List Value} (h : RowsZ Z rows vs) : RowsZ Z' rows vs :=
  Paired.imp (fun _ _ ⟨a, c, u, e, x⟩ => ⟨a, c, u, e, x.mono fun a o h => hs (a, o) h⟩) h
theorem news_in {g h : Heap} {L : Addr} {Z Z' : List (Addr × Obj)} (N : News g L h Z') (hs : ∀ q ∈ Z, q ∈ Z') : News g L h Z := fun q hq => N q (hs q hq)
theorem newsBack {g h : Heap} {L : Addr} {x a b c : Addr × Obj} {Z : List (Addr × Obj)} (N : News g L h (x :: a :: b :: c :: Z)) : News g L h (a :: b :: c :: x :: Z) := news_in N fun q hq => by
  simp only [List.mem_cons] at hq ⊢
  rcases hq with h | h | h | h | h <;> simp [h]

section
variable {prog : Program} {w : World} {A : Around} {E : Value → Shared → Prop} {s : Shared}
/-- a row of the law laid as a pair; the ledger's tail takes it up -/
theorem ev_row {env : Env} {g : Heap} {m : Str → Option Value} {Z : List (Addr × Obj)} {a b c : Addr × Obj} {rs : List Row} {vs : List Value} {e1 e2 : PySem.Expr} {x1 : Nat} {pos : Pos} {Q : Value → Shared → Prop}
    (_F : Fr g env.locals s.heap m) (_N : News g env.locals s.heap (a :: b :: c :: Z)) (Acc : RowsZ Z rs vs) (hok : ∀ r ∈ rs, r.Ok)
    (he1 : starEach [e1, e2] env = (false, eval e1 env) :: starEach [e2] env) (he2 : starEach [e2] env = (false, eval e2 env) :: starEach [] env)
    (h : wpAny (model prog w) A (eval e1 env) (fun v1 s1 => wpAny (model prog w) A (eval e2 env) (fun v2 s2 => Stop (∃ h' tk Z' r t, s2 = { s with heap := h', toks := tk } ∧ Fr g env.locals h' m ∧ News g env.locals h' (a :: b :: c :: Z') ∧ (∀ q ∈ Z, q ∈ Z') ∧ (∀ q ∈ Z', q.2.cls = .type "tuple") ∧
      Row.Ok r ∧ v1 = .int r.code t ∧ RVAt (InZ Z') r.val v2)) E s1) E s)
    (k : ∀ D h' tk Z' r, Fr g env.locals h' m → News g env.locals h' (a :: b :: c :: Z') → (∀ q ∈ Z', q.2.cls = .type "tuple") → RowsZ Z' (rs ++ [r]) (vs ++ [.ref D]) → (∀ r' ∈ rs ++ [r], r'.Ok) → Q (.ref D) { s with heap := h', toks := tk }) :
    wpAny (model prog w) A (eval (.Tuple [e1, e2] x1 pos) env) Q E s := by
  refine Tuple_ (spliced_more (wpAny_mono h (fun v1 s1 h1 => spliced_more (wpAny_mono h1 (fun v2 s2 h2 => spliced_none ?_) fun _ _ e => e) he2) fun _ _ e => e) he1)
  obtain ⟨h', tk, Z', r, t, rfl, F', N', hs, ht', hr, rfl, hv⟩ := h2
  refine newTuple_N F' N' fun h'' F'' N'' => ?_
  refine k _ h'' tk ((h'.objs.size, tupO [.int r.code t, v2] 0) :: Z') r F'' (newsBack N'') (fun q hq => ?_) (Paired.snoc (RowsZ.mono (fun q hq => List.mem_cons_of_mem _ (hs q hq)) Acc) ?_) (fun r' hr' => ?_)
  · rcases List.mem_cons.mp hq with rfl | hq
    · rfl
    · exact ht' q hq
  · exact ⟨h'.objs.size, _, v2, rfl, 0, t, rfl, .head _, hv.mono fun a o h => List.mem_cons_of_mem _ h⟩
  · rcases List.mem_append.mp hr' with h | h
    · exact hok _ h
    · rw [List.mem_singleton.mp h]; exact hr
end

theorem acc_get {Z : List (Addr × Obj)} {rows nr : List Row} {vs nv : List Value} {j : Nat} (Acc : RowsZ Z (rows ++ nr) (vs ++ nv)) (hok : ∀ r ∈ rows ++ nr, r.Ok) (hj : j < nv.length) :
    ∃ r a c u, nv[j]? = some (.ref a) ∧ RowAt (InZ Z) r a c u ∧ r.Ok := by
  obtain ⟨v, hv⟩ : ∃ v, nv[j]? = some v := ⟨nv[j], by simp [hj]⟩
  obtain ⟨r, hr, a, c, u, rfl, hra⟩ := pairedGet Acc (i := vs.length + j) (b := v) (by rw [List.getElem?_append_right (Nat.le_add_right _ _), Nat.add_sub_cancel_left]; exact hv)
  exact ⟨r, a, c, u, hv, hra, hok r (List.mem_of_getElem? hr)⟩
theorem Paired.take {α β : Type} {F : α → β → Prop} : ∀ {l₁ : List α} {l₂ : List β} (n : Nat), Paired F l₁ l₂ → Paired F (l₁.take n) (l₂.take n)
  | _, _, 0, _ => .nil
  | _, _, _ + 1, .nil => .nil
  | _, _, n + 1, .cons x t => .cons x (Paired.take n t)
theorem Paired.drop {α β : Type} {F : α → β → Prop} : ∀ {l₁ : List α} {l₂ : List β} (n : Nat), Paired F l₁ l₂ → Paired F (l₁.drop n) (l₂.drop n)
  | _, _, 0, h => h
  | _, _, _ + 1, .nil => .nil
  | _, _, n + 1, .cons _ t => Paired.drop n t
theorem Paired.append {α β : Type} {F : α → β → Prop} : ∀ {l₁ l₃ : List α} {l₂ l₄ : List β}, Paired F l₁ l₂ → Paired F l₃ l₄ → Paired F (l₁ ++ l₃) (l₂ ++ l₄)
  | _, _, _, _, .nil, h => h
  | _, _, _, _, .cons x t, h => .cons x (Paired.append t h)
theorem acc_old {Z : List (Addr × Obj)} {rows nr : List Row} {vs nv : List Value} (Acc : RowsZ Z (rows ++ nr) (vs ++ nv)) (hl : rows.length = vs.length) : RowsZ Z rows vs := by
  have := Paired.take rows.length Acc
  rwa [List.take_left, hl, List.take_left] at this

theorem okStr {c : Int} {x : Str} (hc : c ≠ 1010) (hx : PyData.strOk x = true) : Row.Ok ⟨c, .str x⟩ where
  text := fun _ => ⟨_, rfl⟩
  vert := fun e => (hc e).elim
  tup := fun _ e => by cases e
  lay := fun y e => by cases e; exact hx
theorem okTup {i : Int} : Row.Ok ⟨1010, .tup i⟩ where
  text := fun e => by cases e
  vert := fun _ => ⟨_, rfl⟩
  tup := fun _ _ => rfl
  lay := fun y e => by cases e
theorem okInt {c i : Int} (h1 : c ≠ 1000) (hc : c ≠ 1010) : Row.Ok ⟨c, .int i⟩ where
  text := fun e => (h1 e).elim
  vert := fun e => (hc e).elim
  tup := fun _ e => by cases e
  lay := fun y e => by cases e

section
variable {prog : Program} {w : World} {A : Around} {E : Value → Shared → Prop} {s : Shared}
theorem sub_two {value slice : PySem.Expr} {l : Addr} {x1 x2 : Str} {t1 t2 : Tok} {k : Int} {t : Tok} {Q : Value → Shared → Prop} (hl : s.heap.IsList l #[.str x1 t1, .str x2 t2]) (hk : 0 ≤ k ∧ k < 2)
    (hs : subscripted slice false (.ref l) (.int k t) = operate [.ref l, .int k t] (getItem (.ref l) (.int k t))) (h1 : Q (.str x1 t1) s) (h2 : Q (.str x2 t2) s) : wpAny (model prog w) A (subscriptTail value slice (.ref l) (.int k t)) Q E s := by
  have : k = 0 ∨ k = 1 := by omega
  rcases this with rfl | rfl
  · exact sub_idx hl (by decide) (by decide) rfl hs h1
  · exact sub_idx hl (by decide) (by decide) rfl hs h2
theorem sub_three {value slice : PySem.Expr} {l : Addr} {x1 x2 x3 : Str} {t1 t2 t3 : Tok} {k : Int} {t : Tok} {Q : Value → Shared → Prop} (hl : s.heap.IsList l #[.str x1 t1, .str x2 t2, .str x3 t3]) (hk : 0 ≤ k ∧ k < 3)
    (hs : subscripted slice false (.ref l) (.int k t) = operate [.ref l, .int k t] (getItem (.ref l) (.int k t))) (h : ∀ x u, x = x1 ∨ x = x2 ∨ x = x3 → Q (.str x u) s) : wpAny (model prog w) A (subscriptTail value slice (.ref l) (.int k t)) Q E s := by
  have : k = 0 ∨ k = 1 ∨ k = 2 := by omega
  rcases this with rfl | rfl | rfl
  · exact sub_idx hl (by decide) (by decide) rfl hs (h _ _ (.inl rfl))
  · exact sub_idx hl (by decide) (by decide) rfl hs (h _ _ (.inr (.inl rfl)))
  · exact sub_idx hl (by decide) (by decide) rfl hs (h _ _ (.inr (.inr rfl)))
end

theorem acc_get12 {Z : List (Addr × Obj)} {rows nr : List Row} {vs nv : List Value} (p : Int) (Acc : RowsZ Z (rows ++ nr) (vs ++ nv)) (hok : ∀ r ∈ rows ++ nr, r.Ok) (hl : nv.length = 12) :
    ∃ r a c u, nv[(Int.fmod p 12).toNat]? = some (.ref a) ∧ RowAt (InZ Z) r a c u ∧ r.Ok := acc_get Acc hok (by rw [hl]; exact fmod12 p)
theorem arr_get {l : List Value} {j : Nat} {x : Value} (h : l[j]? = some x) : l.toArray[j]? = some x := by simpa using h

section
variable {prog : Program} {w : World} {A : Around} {E : Value → Shared → Prop} {s : Shared}
theorem sub_12 {value slice : PySem.Expr} {l : Addr} {t : Tok} {p : Int} {Z : List (Addr × Obj)} {rows nr : List Row} {vs nv : List Value} {Q : Value → Shared → Prop} (hl : s.heap.IsList l nv.toArray) (Acc : RowsZ Z (rows ++ nr) (vs ++ nv)) (hok : ∀ r ∈ rows ++ nr, r.Ok) (hn : nv.length = 12)
    (hs : subscripted slice false (.ref l) (.int (Int.fmod p 12) t) = operate [.ref l, .int (Int.fmod p 12) t] (getItem (.ref l) (.int (Int.fmod p 12) t))) (h : ∀ r a c u, RowAt (InZ Z) r a c u → r.Ok → Q (.ref a) s) : wpAny (model prog w) A (subscriptTail value slice (.ref l) (.int (Int.fmod p 12) t)) Q E s := by
  obtain ⟨r, a, c, u, hx, hra, hrok⟩ := acc_get12 p Acc hok hn
  exact sub_idx hl (fmod_in _ 12 (by decide)).1 (fmod12' p) (arr_get hx) hs (h r a c u hra hrok)
end
end Mine

set_option Elab.async false
namespace Mine
open PySem PySem.W PyProof.Rows
section
variable {prog : Program} {w : World} {A : Around} {E : Value → Shared → Prop} {s : Shared}
/-- a pair laid; what its parts are is said by G -/
theorem ev_pair {env : Env} {g : Heap} {m : Str → Option Value} {news : List (Addr × Obj)} {e1 e2 : PySem.Expr} {x1 : Nat} {pos : Pos} {Q : Value → Shared → Prop} (G : Value → Value → Prop)
    (_F : Fr g env.locals s.heap m) (_N : News g env.locals s.heap news)
    (he1 : starEach [e1, e2] env = (false, eval e1 env) :: starEach [e2] env) (he2 : starEach [e2] env = (false, eval e2 env) :: starEach [] env)
    (h : wpAny (model prog w) A (eval e1 env) (fun v1 s1 => wpAny (model prog w) A (eval e2 env) (fun v2 s2 => Stop (∃ h' tk, s2 = { s with heap := h', toks := tk } ∧ Fr g env.locals h' m ∧ News g env.locals h' news ∧ G v1 v2)) E s1) E s)
    (k : ∀ D h' tk v1 v2, G v1 v2 → Fr g env.locals h' m → News g env.locals h' ((D, tupO [v1, v2] 0) :: news) → Q (.ref D) { s with heap := h', toks := tk }) :
    wpAny (model prog w) A (eval (.Tuple [e1, e2] x1 pos) env) Q E s := by
  refine Tuple_ (spliced_more (wpAny_mono h (fun v1 s1 h1 => spliced_more (wpAny_mono h1 (fun v2 s2 h2 => spliced_none ?_) fun _ _ e => e) he2) fun _ _ e => e) he1)
  obtain ⟨h', tk, rfl, F', N', hG⟩ := h2
  exact newTuple_N F' N' fun h'' F'' N'' => k _ h'' tk v1 v2 hG F'' N''

theorem slice_any {g : Heap} {L l : Addr} {m : Str → Option Value} {news : List (Addr × Obj)} {value slice : PySem.Expr} {vs : List Value} {vl vu : Value} {lo hi : Option Int} {Q : Value → Shared → Prop}
    (F : Fr g L s.heap m) (N : News g L s.heap news) (hl : s.heap.IsList l vs.toArray) (pl : IsPart vl lo) (pu : IsPart vu hi) (hsz : vs.length ≤ 100)
    (hs : subscripted slice false (.ref l) (.ref s.heap.objs.size) = operate [.ref s.heap.objs.size, .ref l] (getItem (.ref l) (.ref s.heap.objs.size))) (ht : ∀ r, letTemporaryGo value (.ref l) r = pure ())
    (h : ∀ D h' a b, a = kms_lo lo vs.length → b = kms_hi hi vs.length - kms_lo lo vs.length → Fr g L h' m → News g L h' ((D, W.listOf (List.toArray ((vs.drop a).take b)) 0) :: news) → Q (.ref D) { s with heap := h' }) :
    wpAny (model prog w) A (subscriptTail value slice (.ref l) (.ref s.heap.objs.size)) Q E { s with heap := s.heap.push { cls := .type "slice", data := .fields #[vl, vu, .none] } } := by
  refine kmk_slice F N hl pl pu (fun D h' F' N' _ => h D h' _ _ rfl rfl F' ?_) hs ht (by rw [List.size_toArray, sizeLine_eq]; omega)
  rw [kms_pick_eq] at N'
  exact N'

theorem add_any {g : Heap} {L l b : Addr} {m : Str → Option Value} {news : List (Addr × Obj)} {vs ws : List Value} {Q : Value → Shared → Prop} (F : Fr g L s.heap m) (N : News g L s.heap news) (hl : s.heap.IsList l vs.toArray) (hb : s.heap.IsList b ws.toArray)
    (hsz : vs.length + ws.length ≤ 200) (h : ∀ D h', Fr g L h' m → News g L h' ((D, W.listOf (List.toArray (vs ++ ws)) 0) :: news) → Q (.ref D) { s with heap := h' }) :
    wpAny (model prog w) A (binaryOp .Add (.ref l) (.ref b)) Q E s :=
  add_lists (hsz := by rw [sizeLine_eq]; omega) F N hl hb fun h' F' N' => h _ h' F' N'
theorem mul_any {g : Heap} {L l : Addr} {m : Str → Option Value} {news : List (Addr × Obj)} {vs : List Value} {x : Int} {u : Tok} {Q : Value → Shared → Prop} (F : Fr g L s.heap m) (N : News g L s.heap news) (hl : s.heap.IsList l vs.toArray)
    (h0 : 0 ≤ x) (h1 : x < 2) (hsz : vs.length ≤ 100) (h : ∀ D h' n, n ≤ 1 → Fr g L h' m → News g L h' ((D, W.listOf (List.toArray (List.replicate n vs).flatten) 0) :: news) → Q (.ref D) { s with heap := h' }) :
    wpAny (model prog w) A (binaryOp .Mult (.ref l) (.int x u)) Q E s := by
  have hx : x.toNat ≤ 1 := by omega
  refine KMa.mul F N hl (by omega) (by omega) ?_ rfl fun D h' F' N' _ => h D h' x.toNat hx F' N'
  have : vs.length * x.toNat ≤ vs.length * 1 := Nat.mul_le_mul_left _ hx
  omega
end
theorem Paired.rep {α β : Type} {F : α → β → Prop} {l₁ : List α} {l₂ : List β} (h : Paired F l₁ l₂) : ∀ n : Nat, Paired F (List.replicate n l₁).flatten (List.replicate n l₂).flatten
  | 0 => .nil
  | n + 1 => by
    rw [List.replicate_succ, List.replicate_succ, List.flatten_cons, List.flatten_cons]
    exact Paired.append h (Paired.rep h n)

theorem okPart {rows : List Row} (h : ∀ r ∈ rows, r.Ok) (a b : Nat) : ∀ r ∈ (rows.drop a).take b, r.Ok := fun r hr => h r (List.mem_of_mem_drop (List.mem_of_mem_take hr))
theorem okApp {r1 r2 : List Row} (h1 : ∀ r ∈ r1, r.Ok) (h2 : ∀ r ∈ r2, r.Ok) : ∀ r ∈ r1 ++ r2, r.Ok := fun r hr => (List.mem_append.mp hr).elim (h1 r) (h2 r)
theorem okOne {r : Row} (h : r.Ok) : ∀ r' ∈ [r], r'.Ok := fun r' hr => by rw [List.mem_singleton.mp hr]; exact h
theorem okRep {r1 : List Row} (h1 : ∀ r ∈ r1, r.Ok) (n : Nat) : ∀ r ∈ (List.replicate n r1).flatten, r.Ok := fun r hr => by
  obtain ⟨l, hl, hrl⟩ := List.mem_flatten.mp hr
  rw [(List.mem_replicate.mp hl).2] at hrl
  exact h1 r hrl
theorem oneZ {Z : List (Addr × Obj)} {D : Addr} {c : Int} {x : Str} {t t' : Tok} {n : Nat} (h : (D, tupO [.int c t, .str x t'] n) ∈ Z) : RowsZ Z [⟨c, .str x⟩] [.ref D] := .cons ⟨D, .int c t, .str x t', rfl, n, t, rfl, h, t', rfl⟩ .nil
theorem repLen {α : Type} {x : α} {n : Nat} (h : n ≤ 1) : (List.replicate n [x]).flatten.length ≤ 1 := by
  have : n = 0 ∨ n = 1 := by omega
  rcases this with rfl | rfl <;> simp
theorem strOkB {nm : Str} (h : nm = Str.ofString "A" ∨ nm = Str.ofString "AB" ∨ nm = Str.ofString "ACAD_A") : PyData.strOk (nm ++ Str.ofString "_BEGIN") = true ∧ PyData.strOk (nm ++ Str.ofString "_END") = true := by
  rcases h with rfl | rfl | rfl <;> exact ⟨by decide +kernel, by decide +kernel⟩
theorem cutLen {α : Type} (l : List α) (a b : Nat) : ((l.drop a).take b).length ≤ l.length := by simp only [List.length_take, List.length_drop]; omega

theorem RowsZ.app {Z : List (Addr × Obj)} {a b : List Row} {c d : List Value} (h1 : RowsZ Z a c) (h2 : RowsZ Z b d) : RowsZ Z (a ++ b) (c ++ d) := Paired.append h1 h2
theorem RowsZ.part {Z : List (Addr × Obj)} {rows : List Row} {vs : List Value} (h : RowsZ Z rows vs) (a b : Nat) : RowsZ Z ((rows.drop a).take b) ((vs.drop a).take b) := Paired.take b (Paired.drop a h)
theorem RowsZ.rep {Z : List (Addr × Obj)} {rows : List Row} {vs : List Value} (h : RowsZ Z rows vs) (n : Nat) : RowsZ Z (List.replicate n rows).flatten (List.replicate n vs).flatten := Paired.rep h n

theorem mono_in {g h : Heap} {L : Addr} {Z Z' : List (Addr × Obj)} {rows : List Row} {vs : List Value} (_N : News g L h Z') (hrw : RowsZ Z rows vs) (hs : ∀ q ∈ Z, q ∈ Z') : RowsZ Z' rows vs := RowsZ.mono hs hrw
end Mine

set_option Elab.async false
namespace Mine
open PySem PySem.W PyProof.Rows
theorem succ_pos' (n : Nat) : (0 : Int) < (n : Int) + 1 := by omega
section
variable {prog : Program} {w : World} {A : Around} {E : Value → Shared → Prop} {s : Shared}
/-- a remainder by a divisor above nought, its term hidden -/
theorem mod_abs {a b : Int} {t u : Tok} {Q : Value → Shared → Prop} (hb : 0 < b) (h : ∀ k tk, 0 ≤ k → k < b → Q (.int k tk) { s with toks := s.toks + 1 }) :
    wpAny (model prog w) A (binaryOp .Mod (.int a t) (.int b u)) Q E s :=
  mod_int (by omega) (h _ _ (Int.fmod_nonneg_of_pos _ hb) (Int.fmod_lt_of_pos _ hb))
end
end Mine

set_option Elab.async false
namespace Mine
open PySem PySem.W PyProof.Rows
section
variable {prog : Program} {w : World} {A : Around} {E : Value → Shared → Prop} {env : Env} {s : Shared} {g : Heap} {L : Addr} {m : Str → Option Value}

theorem tests_none {A' : Around} {cenv : Env} {E' : Value → Shared → Prop} {s' : Shared} {Q' : Bool → Shared → Prop} (h : Q' true s') :
    wpAny (model prog w) A' (forIn ([] : List PySem.Expr) true fun c r => if r = true then do let ok ← isTrue c cenv (eval c cenv); pure (ForInStep.yield ok) else pure (ForInStep.yield r)) Q' E' s' := wpAny_pure h

/-- [E for a, b in l] over a list of pairs -/
theorem pair_comp {news : List (Addr × Obj)} {elt iter : PySem.Expr} {x x₂ : Str} {px px₂ pt : Pos} {x1 : Nat} {scope : Scope} {cl : List (Str × Addr)} {pos fpos : Pos} {use : Option (Value → Sem Unit)} {Q : Value → Shared → Prop} {ra : Addr} {tups : List (Addr × Value × Value)}
    (Inv : Nat → List Value → List (Addr × Obj) → Prop) (zero : Inv 0 [] []) (len : ∀ i ys nw, Inv i ys nw → ys.length = i)
    (hh : A.handled = none) (F : Fr g L s.heap m) (N : News g L s.heap news) {nl : Nat}
    (hl : (ra, ({ cls := .type "list", data := .seq (List.toArray (tups.map fun q => Value.ref q.1)) nl } : Obj)) ∈ news) (htu' : ∀ q ∈ tups, ∃ n, (q.1, tupO [q.2.1, q.2.2] n) ∈ news) (hsz : tups.length ≤ sizeLine)
    (hclos : closureFor scope env = pure cl) (hcell : ∀ y ∈ scope.names, y.2 ≠ .cell) (hkind : scope.kind = .function)
    (hnames : ∀ y ∈ scope.names, y.2 = .local → scope.names.lookup y.1 = some .local)
    (hx : scope.names.lookup x = some .local) (hx₂ : scope.names.lookup x₂ = some .local) (hxx : x ≠ x₂)
    (hiter : ∀ Q' : Value → Shared → Prop, Q' (.ref ra) s → wpAny (model prog w) A (eval iter env) Q' E s)
    (helt : ∀ C D it (i : Nat) q ys oC own nw s₃ m₃ E', tups[i]? = some q → LCg.NsObj oC m₃ → m₃ x = some q.2.1 → m₃ x₂ = some q.2.2 → Inv i ys nw → Fr g L s₃.heap m → News g L s₃.heap ((C, oC) :: (own ++ (nw ++ news))) → (∀ b ∈ [D, it], ∃ o, (b, o) ∈ own) →
      wpAny (model prog w) A (eval elt (compEnvC scope cl C env)) (fun y s₄ => KElt g L m C D [it] ((C, oC) :: own) nw news (Inv (i + 1) (ys ++ [y])) s₃ s₄) E' s₃)
    (hpost : ∀ D C h' tk m' ys nw no, Fr g L h' m → News g L h' ((D, lstO ys no) :: (nw ++ news)) → Inv tups.length ys nw → h'.Ns C m' → g.get? C = none → C ≠ L → C ≠ D → (∀ q ∈ nw ++ news, q.1 ≠ C ∧ q.1 ≠ D) →
      compPost (model prog w) A E use Q (.ref D) C (.ok .next) { s with heap := h', toks := tk })
    (hs : ∀ x, foldedSetIterable iter env x = pure x := by intro _; rfl) :
    wpAny (model prog w) A (comprehension (.ListComp elt [⟨.Tuple [.Name x px, .Name x₂ px₂] x1 pt, iter, [], 0⟩] scope pos) scope env fpos (newList []) false (eval iter env) use) Q E s := by
  have htu : ∀ q ∈ tups, ∃ o, o.cls = .type "tuple" ∧ (∃ n, o.data = .seq #[q.2.1, q.2.2] n) ∧ (q.1, o) ∈ news := fun q hq => let ⟨n, h⟩ := htu' q hq; ⟨_, rfl, ⟨n, rfl⟩, h⟩
  refine comp_k_eval (g := g) (L := L) (m := m) hclos hcell hkind hnames (hiter _ ?_) hs
  have hlst : s.heap.IsList ra (List.toArray (tups.map fun q => Value.ref q.1)) := ⟨_, N.get hl, rfl, _, rfl⟩
  have hLlt : L < s.heap.objs.size := F.ns.lt
  have below : ∀ q ∈ news, q.1 < s.heap.objs.size := fun q hq => Heap.lt_size (N q hq).1
  refine wpAny_pyIter_list hlst ⟨s.heap.objs.size, s.heap.objs.size :: ra :: tups.map (·.1), [s.heap.objs.size], tups.length, (fun i m => ∃ q, tups[i]? = some q ∧ m x = some q.2.1 ∧ m x₂ = some q.2.2),
    (fun i h => h.IsListIter s.heap.objs.size ra i ∧ IsSeq h ra (List.toArray (tups.map fun q => Value.ref q.1)) ∧ ∀ q ∈ tups, h.IsTuple q.1 #[q.2.1, q.2.2]), (fun _ => true), Inv, news, rfl, ?_⟩
  have old : ∀ b o, s.heap.get? b = some o → (s.heap.push { cls := .type "list_iterator", data := .fields #[.ref ra, .int 0 0] }).get? b = some o := fun b o e => Heap.get?_push_of_some _ e
  have gnone : g.get? s.heap.objs.size = none := by
    cases e : g.get? s.heap.objs.size with
    | none => rfl
    | some o' => exact absurd (Heap.lt_size (F.keep _ _ e)) (Nat.lt_irrefl _)
  have hsize : (List.toArray (tups.map fun q => Value.ref q.1)).size = tups.length := by simp
  exact {
    fr := F.push _
    nw := N.grown old
    src := fun C hC => by
      have S := Src.pairList (prog := prog) (w := w) (env := compEnvC scope cl C env) (A := A) (px := px) (px₂ := px₂) (pt := pt) (x1 := x1) (it := s.heap.objs.size) (l := ra) (tups := tups) (items := List.toArray (tups.map fun q => Value.ref q.1)) hh (by simp) (lookup_relabel_local hx) (lookup_relabel_local hx₂) hxx (by simp [compEnvC, relabel, hkind]) (Nat.ne_of_lt (below _ hl)) (fun q hq => let ⟨_, _, _, h⟩ := htu q hq; Nat.ne_of_lt (below _ h)) hC
      rw [hsize] at S
      exact S
    size := hsz
    st := ⟨⟨_, Heap.get?_push_size _ rfl, rfl, rfl⟩, ⟨_, _, old _ _ (N.get hl), rfl⟩, fun q hq => let ⟨_, hc, ⟨n, hd⟩, h⟩ := htu q hq; ⟨_, old _ _ (N.get h), hc, n, hd⟩⟩
    live := fun b hb => by
      show b < (s.heap.push _).objs.size
      rw [Heap.size_push]
      rcases List.mem_cons.mp hb with rfl | hb
      · exact Nat.lt_succ_self _
      rcases List.mem_cons.mp hb with rfl | hb
      · exact Nat.lt_succ_of_lt (below _ hl)
      obtain ⟨q, hq, rfl⟩ := List.mem_map.mp hb
      obtain ⟨_, _, _, h⟩ := htu q hq
      exact Nat.lt_succ_of_lt (below _ h)
    fresh := fun b hb => by
      rcases List.mem_cons.mp hb with rfl | hb
      · exact ⟨gnone, Nat.ne_of_gt hLlt⟩
      rcases List.mem_cons.mp hb with rfl | hb
      · exact ⟨(N _ hl).2.2, (N _ hl).2.1⟩
      obtain ⟨q, hq, rfl⟩ := List.mem_map.mp hb
      obtain ⟨_, _, _, h⟩ := htu q hq
      exact ⟨(N _ h).2.2, (N _ h).2.1⟩
    off := fun q hq hm => by
      have e := List.mem_singleton.mp hm
      have h := below q hq
      rw [e] at h
      exact Nat.lt_irrefl _ h
    skip := fun i ys nw _ hp h => by cases hp
    len := fun i ys nw h => Nat.le_of_eq (len i ys nw h)
    zero := zero
    tests := by
      rintro C i oC own nw s₃ m₃ E' hi hB hNo F₃ N₃
      exact tests_none ⟨rfl, s₃.heap, s₃.toks, rfl, F₃, N₃⟩
    elt := by
      rintro C D i ys oC own nw s₃ m₃ E' hi ⟨q, hq, h1, h2⟩ hp hI hNo F₃ N₃ hb
      exact helt C D s.heap.objs.size i q ys oC own nw s₃ m₃ E' hq hNo h1 h2 hI F₃ N₃ hb
    post := by
      rintro D C h₂ tk m' ys nw no F₂ N₂ hI hn hCg hCL hCD hoff
      exact hpost D C h₂ tk m' ys nw no F₂ N₂ hI hn hCg hCL hCD hoff }
end

theorem tups_ex {Z : List (Addr × Obj)} : ∀ {rows : List Row} {vs : List Value}, RowsZ Z rows vs → ∃ tups : List (Addr × Value × Value), vs = tups.map (fun q => Value.ref q.1) ∧ Paired (fun r q => RowAt (InZ Z) r q.1 q.2.1 q.2.2) rows tups
  | _, _, .nil => ⟨[], rfl, .nil⟩
  | _, _, .cons ⟨a, c, u, e, x⟩ t => by
    obtain ⟨tups, h1, h2⟩ := tups_ex t
    exact ⟨(a, c, u) :: tups, by rw [e, h1]; rfl, .cons x h2⟩
theorem paired_mem {α β : Type} {F : α → β → Prop} : ∀ {l₁ : List α} {l₂ : List β} {b : β}, Paired F l₁ l₂ → b ∈ l₂ → ∃ a ∈ l₁, F a b
  | _, _, _, .nil, h => by cases h
  | _, _, b, .cons x t, h => by
    rcases List.mem_cons.mp h with rfl | h
    · exact ⟨_, .head _, x⟩
    · obtain ⟨a, ha, hf⟩ := paired_mem t h; exact ⟨a, .tail _ ha, hf⟩

theorem TagZ.mono {H H' : Addr → Obj → Prop} (k : ∀ a o, H a o → H' a o) {r : Row} {v : Value} : TagZ H r v → TagZ H' r v
  | ⟨x, d, C, t, u, e, h1, h2, h3, h4⟩ => ⟨x, d, C, t, u, e, k _ _ h1, k _ _ h2, h3.mono k, h4⟩
theorem elt_done {g h' : Heap} {L C D it x d CC : Addr} {m : Str → Option Value} {oC : Obj} {own nw Z : List (Addr × Obj)} {r : Row} {rows : List Row} {ys : List Value} {i tk : Nat} {t : Tok} {u : Value} {s₃ : Shared}
    (F' : Fr g L h' m) (N' : News g L h' ((x, tagO CC d (.int r.code t) u) :: (d, dictOf [] 0) :: (C, oC) :: (own ++ (nw ++ Z)))) (l1 : ∀ p ∈ (C, oC) :: (own ++ (nw ++ Z)), p.1 < d) (l2 : @LT.lt Nat _ d x)
    (hb : ∀ b ∈ [D, it], ∃ o, (b, o) ∈ own) (hI : ys.length = i ∧ Paired (TagZ (InZ (nw ++ Z))) (rows.take i) ys) (hr : rows[i]? = some r) (hu : RVAt (InZ Z) r.val u) (hc : (CC = 149 ∧ r.code ≠ 1010) ∨ (CC = 217 ∧ r.code = 1010)) :
    KElt g L m C D [it] ((C, oC) :: own) nw Z (fun nw' => (ys ++ [Value.ref x]).length = i + 1 ∧ Paired (TagZ (InZ (nw' ++ Z))) (rows.take (i + 1)) (ys ++ [.ref x])) s₃ { s₃ with heap := h', toks := tk } := by
  have lC := l1 _ (.head _)
  have lo : ∀ b, b ∈ [D, it] → b < d := fun b h => let ⟨o, ho⟩ := hb b h; l1 (b, o) (List.mem_cons_of_mem _ (List.mem_append_left _ ho))
  have lD := lo D (.head _)
  have li := lo it (.tail _ (.head _))
  refine ⟨h', tk, [(x, tagO CC d (.int r.code t) u), (d, dictOf [] 0)], rfl, F', news_in N' fun q hq => ?_, fun q hq => ?_, by simp [hI.1], ?_⟩
  · simp only [List.mem_cons, List.mem_append, List.not_mem_nil, or_false] at hq ⊢
    rcases hq with (h | h) | ((h | h) | h) | h <;> simp [h]
  · simp only [List.mem_cons, List.not_mem_nil, or_false] at hq ⊢
    rcases hq with rfl | rfl
    · exact ⟨Nat.ne_of_gt (Nat.lt_trans lC l2), Nat.ne_of_gt (Nat.lt_trans lD l2), Nat.ne_of_gt (Nat.lt_trans li l2)⟩
    · exact ⟨Nat.ne_of_gt lC, Nat.ne_of_gt lD, Nat.ne_of_gt li⟩
  · have hlt : i < rows.length := by
      rcases Nat.lt_or_ge i rows.length with h | h
      · exact h
      · rw [List.getElem?_eq_none h] at hr; cases hr
    have hre : rows[i] = r := by rw [List.getElem?_eq_getElem hlt] at hr; exact Option.some.inj hr
    rw [List.take_succ_eq_append_getElem hlt, hre]
    refine Paired.snoc (Paired.imp (fun _ _ h => TagZ.mono (fun a o h => ?_) h) hI.2) ⟨x, d, CC, t, u, rfl, ?_, ?_, hu.mono fun a o h => ?_, hc⟩
    · exact List.mem_cons_of_mem _ (List.mem_cons_of_mem _ h)
    · exact .head _
    · exact .tail _ (.head _)
    · exact List.mem_append_right _ h

/-- a name the law may ask for -/
structure NmOk (x : Str) : Prop where
  len : x.length ≤ 16
  en : PyData.strOk (x ++ Str.ofString "_END") = true
  bg : PyData.strOk (x ++ Str.ofString "_BEGIN") = true
theorem names_ok {t1 t2 t3 t4 t5 : Tok} {i : Nat} {v : Value} (h : (List.toArray ([Value.str (Str.ofString "A") t1, .str (Str.ofString "AB") t2, .str (Str.ofString "ACAD_A") t3] ++ [.str (Str.ofString "") t4, .str (Str.ofString "a") t5]))[i]? = some v) : ∃ x t, v = .str x t ∧ NmOk x := by
  have hm : v ∈ [Value.str (Str.ofString "A") t1, .str (Str.ofString "AB") t2, .str (Str.ofString "ACAD_A") t3, .str (Str.ofString "") t4, .str (Str.ofString "a") t5] := by
    have := Array.mem_of_getElem? h
    simpa using this
  simp only [List.mem_cons, List.not_mem_nil, or_false] at hm
  rcases hm with rfl | rfl | rfl | rfl | rfl <;> exact ⟨_, _, rfl, by decide, by decide +kernel, by decide +kernel⟩
end Mine

set_option Elab.async false
namespace Mine
open PySem PySem.W PyProof.Rows
theorem kfilled8 : (hd.heap_39 = hd.heap_39) → (PySem.Challenge.rw_vz0017_01 = PySem.Challenge.rw_vz0017_01) → True := by
  k_fill
  intros; trivial
theorem tags_init {w : World} : findIn (hd.heap_39 w.params) (.ref 429) "__init__" = some (some (.builtin "list.__init__")) := by k_is
theorem tags_makes {w : World} : makesL (hd.heap_39 w.params) 429 = true := by kernel_rfl
end Mine

set_option Elab.async false
namespace Mine
open PySem PySem.W PyProof.Rows
section
variable {w : World} {A : Around} {E : Value → Shared → Prop} {s : Shared}
theorem slice_tags {g : Heap} {L x d : Addr} {m : Str → Option Value} {news : List (Addr × Obj)} {value slice : PySem.Expr} {vs : List Value} {n : Nat} {vl vu : Value} {lo hi : Option Int} {Q : Value → Shared → Prop}
    (F : Fr g L s.heap m) (N : News g L s.heap news) (KX : (hd.heap_39 w.params).In g) (hx : (x, subO 429 d (List.toArray vs) n) ∈ news) (hd' : (d, dictOf [] 0) ∈ news) (pl : IsPart vl lo) (pu : IsPart vu hi) (hsz : vs.length ≤ 100)
    (hs : subscripted slice false (.ref x) (.ref s.heap.objs.size) = operate [.ref s.heap.objs.size, .ref x] (getItem (.ref x) (.ref s.heap.objs.size))) (ht : ∀ r, letTemporaryGo value (.ref x) r = pure ())
    (h : ∀ D h' a b, a = kms_lo lo vs.length → b = kms_hi hi vs.length - kms_lo lo vs.length → Fr g L h' m → News g L h' ((D, W.listOf (List.toArray ((vs.drop a).take b)) 0) :: news) → Q (.ref D) { s with heap := h' }) :
    wpAny (model pw w) A (subscriptTail value slice (.ref x) (.ref s.heap.objs.size)) Q E { s with heap := s.heap.push { cls := .type "slice", data := .fields #[vl, vu, .none] } } := by
  refine slice_sub (K := hd.heap_39 w.params) (C := 429) (od := some (dictOf [] 0)) F N KX ⟨N.get hx, rfl, rfl, N.get hd'⟩ tagsSub pl pu (fun h' F' N' => h _ h' _ _ rfl rfl F' ?_) hs ht (by rw [List.size_toArray, sizeLine_eq]; omega)
  rw [kms_pick_eq] at N'
  exact N'
theorem make_tags {g : Heap} {L D : Addr} {m : Str → Option Value} {news : List (Addr × Obj)} {vs : List Value} {n : Nat} {Q : Value → Shared → Prop}
    (F : Fr g L s.heap m) (N : News g L s.heap news) (KX : (hd.heap_39 w.params).In g) (hD : (D, W.listOf (List.toArray vs) n) ∈ news) (hsz : vs.length ≤ 200)
    (h : ∀ x d h' c, Fr g L h' m → News g L h' ((x, subO 429 d (List.toArray vs) c) :: (d, dictOf [] 0) :: news) → Q (.ref x) { s with heap := h' }) :
    wpAny (model pw w) A (call (.ref 429) [.ref D]) Q E s :=
  wpAny_call (make_L F N (KX.keeps F.keep) tags_makes tags_init (.inl rfl) (N.get hD) rfl rfl (by rw [List.size_toArray, sizeLine_eq]; omega) tagsSub.sub fun x d h' c F' N' _ _ => h x d h' c F' N')
end
theorem kms_lo_nat {b : Int} {n : Nat} (h0 : 0 ≤ b) (h : b ≤ n) : kms_lo (some b) n = b.toNat := by
  unfold kms_lo; dsimp only; rw [if_neg (by omega)]; omega
theorem kms_hi_nat {b : Int} {n : Nat} (h0 : 0 ≤ b) (h : b ≤ n) : kms_hi (some b) n = b.toNat := by
  unfold kms_hi; dsimp only; rw [if_neg (by omega)]; omega

theorem mono_inT {g h : Heap} {L : Addr} {Z Z' : List (Addr × Obj)} {rows : List Row} {vs : List Value} (_N : News g L h Z') (hI : Paired (TagZ (InZ Z)) rows vs) (hs : ∀ q ∈ Z, q ∈ Z') : Paired (TagZ (InZ Z')) rows vs :=
  Paired.imp (fun _ _ h => TagZ.mono (fun a o h => hs (a, o) h) h) hI

theorem pair_ne {prog : Program} {w : World} {A : Around} {E : Value → Shared → Prop} {s : Shared} {a1 a2 : Addr} {n1 n2 : Nat} {b e : Int} {t1 t1' t2 t2' : Tok} {Q : Value → Shared → Prop}
    (h1 : s.heap.get? a1 = some (tupO [.int b t1, .int e t1'] n1)) (h2 : s.heap.get? a2 = some (tupO [.int b t2, .int e t2'] n2)) (hu : A.units + 64 < cLine) (h : Q (.bool false) s) :
    wpAny (model prog w) A (compareOp .NotEq (.ref a1) (.ref a2)) Q E s := by
  have hsh : SeqAt.shaped (.tuple [.int b, .int e]) = true := shaped_of_canLay (by simp [PyData.canLay0, PyData.canLayAll0]) (by simp [PyData.depth, PyData.depthAll])
  refine ne_dataH (reads_tuple_at h1 rfl rfl (ReadsAll.cons (Reads.int _ _) (ReadsAll.cons (Reads.int _ _) ReadsAll.nil))) (reads_tuple_at h2 rfl rfl (ReadsAll.cons (Reads.int _ _) (ReadsAll.cons (Reads.int _ _) ReadsAll.nil))) hsh hsh hu ?_
  have : PyData.eqv (.tuple [.int b, .int e]) (.tuple [.int b, .int e]) = true := by simp [PyData.eqv, PyData.eqvAll]
  rw [this]; exact h
end Mine

set_option Elab.async false
namespace Mine
open PySem PySem.W PyProof.Rows PySem.Calls
theorem kfilled9 : (hd.heap_39 = hd.heap_39) → (PySem.Challenge.rw_vz0017_01 = PySem.Challenge.rw_vz0017_01) → True := by
  k_fill
  intros; trivial
local macro_rules | `(tactic| walk_at "stp") => `(tactic| first | (k_unfold; (try dsimp only)) | walk1 | (dsimp only; walk1))
local macro_rules | `(tactic| k_inst) => `(tactic| assumption)
local macro_rules | `(tactic| k_handed) => `(tactic| assumption)

/-- the rows read as one list -/
theorem rows_reads {h : Heap} {Z : List (Addr × Obj)} (hZ : ∀ q ∈ Z, h.get? q.1 = some q.2) : ∀ {rows : List Row} {vs : List Value}, RowsZ Z rows vs → ReadsAll h vs (rows.map Row.py) []
  | _, _, .nil => .nil
  | _, _, .cons ⟨a, c, u, e, x⟩ t => by
    subst e
    exact ReadsAll.cons (as := []) (bs := []) (x.mono fun a o hq => hZ (a, o) hq).reads (rows_reads hZ t)
theorem rows_lay : ∀ {rows : List Row}, (∀ r ∈ rows, r.Ok) → PyData.canLayAll0 (rows.map Row.py) = true
  | [], _ => rfl
  | r :: rows, h => by
    have h1 : r.py.canLay0 = true := by
      show PyData.canLayAll0 [.int r.code, r.val.py] = true
      simp only [PyData.canLayAll0, RV.canLay (h r (.head _)).lay, PyData.canLay0]; rfl
    simp only [List.map_cons, PyData.canLayAll0, h1, rows_lay fun q hq => h q (.tail _ hq)]; rfl
theorem rows_depth : ∀ (rows : List Row), PyData.depthAll (rows.map Row.py) ≤ 2
  | [] => by simp [PyData.depthAll]
  | r :: rows => by
    have h1 : r.py.depth ≤ 2 := by
      have := RV.depth r.val
      show PyData.depth (.tuple [.int r.code, r.val.py]) ≤ 2
      simp only [PyData.depth, PyData.depthAll]; omega
    have := rows_depth rows
    simp only [List.map_cons, PyData.depthAll]; omega
theorem rows_shaped {rows : List Row} (h : ∀ r ∈ rows, r.Ok) : SeqAt.shaped (.list (rows.map Row.py)) = true := by
  refine shaped_of_canLay (rows_lay h) ?_
  have := rows_depth rows
  simp only [PyData.depth]; omega

theorem rows_same {prog : Program} {w : World} {A : Around} {E : Value → Shared → Prop} {s : Shared} {Z : List (Addr × Obj)} {a b : Addr} {n1 n2 : Nat} {rows : List Row} {vs us : List Value} {Q : Value → Shared → Prop}
    (hZ : ∀ q ∈ Z, s.heap.get? q.1 = some q.2) (ha : (a, lstO vs n1) ∈ Z) (hb : (b, lstO us n2) ∈ Z) (h1 : RowsZ Z rows vs) (h2 : RowsZ Z rows us) (hok : ∀ r ∈ rows, r.Ok) (hu : A.units + 64 < cLine) (h : Q (.bool true) s) :
    wpAny (model prog w) A (compareOp .Eq (.ref a) (.ref b)) Q E s := by
  refine eq_dataH (reads_list_at (hZ _ ha) rfl rfl (rows_reads hZ h1)) (reads_list_at (hZ _ hb) rfl rfl (rows_reads hZ h2)) (rows_shaped hok) (rows_shaped hok) hu ?_
  have : PyData.eqv (.list (rows.map Row.py)) (.list (rows.map Row.py)) = true := SeqAt.eqv_refl _ (rows_lay hok)
  rw [this]; exact h

section
variable {prog : Program} {w : World} {A : Around} {E : Value → Shared → Prop} {env : Env} {s : Shared} {g : Heap} {L : Addr} {m : Str → Option Value}
/-- [E for a in x] over an own list -/
theorem tags_comp {K : Frag} {C0 : Addr} {news : List (Addr × Obj)} {elt iter : PySem.Expr} {x : Str} {px : Pos} {scope : Scope} {cl : List (Str × Addr)} {pos fpos : Pos} {use : Option (Value → Sem Unit)} {Q : Value → Shared → Prop} {ta td : Addr} {vs : List Value} {nl : Nat}
    (Inv : Nat → List Value → List (Addr × Obj) → Prop) (zero : Inv 0 [] []) (len : ∀ i ys nw, Inv i ys nw → ys.length = i)
    (hh : A.handled = none) (F : Fr g L s.heap m) (N : News g L s.heap news) (X₀ : K.In g) (Y : SubL K C0)
    (hl : (ta, subO C0 td (List.toArray vs) nl) ∈ news) (hd' : (td, dictOf [] 0) ∈ news) (hsz : vs.length ≤ sizeLine)
    (hclos : closureFor scope env = pure cl) (hcell : ∀ y ∈ scope.names, y.2 ≠ .cell) (hkind : scope.kind = .function)
    (hnames : ∀ y ∈ scope.names, y.2 = .local → scope.names.lookup y.1 = some .local)
    (hx : scope.names.lookup x = some .local)
    (hiter : ∀ Q' : Value → Shared → Prop, Q' (.ref ta) s → wpAny (model prog w) A (eval iter env) Q' E s)
    (helt : ∀ C D it (i : Nat) v ys oC own nw s₃ m₃ E', vs[i]? = some v → LCg.NsObj oC m₃ → m₃ x = some v → Inv i ys nw → Fr g L s₃.heap m → News g L s₃.heap ((C, oC) :: (own ++ (nw ++ news))) → (∀ b ∈ [D, it], ∃ o, (b, o) ∈ own) →
      wpAny (model prog w) A (eval elt (compEnvC scope cl C env)) (fun y s₄ => KElt g L m C D [it] ((C, oC) :: own) nw news (Inv (i + 1) (ys ++ [y])) s₃ s₄) E' s₃)
    (hpost : ∀ D C h' tk m' ys nw no, Fr g L h' m → News g L h' ((D, lstO ys no) :: (nw ++ news)) → Inv vs.length ys nw → h'.Ns C m' → g.get? C = none → C ≠ L → C ≠ D → (∀ q ∈ nw ++ news, q.1 ≠ C ∧ q.1 ≠ D) →
      compPost (model prog w) A E use Q (.ref D) C (.ok .next) { s with heap := h', toks := tk })
    (hs : ∀ x, foldedSetIterable iter env x = pure x := by intro _; rfl) :
    wpAny (model prog w) A (comprehension (.ListComp elt [⟨.Name x px, iter, [], 0⟩] scope pos) scope env fpos (newList []) false (eval iter env) use) Q E s := by
  refine comp_k_eval (g := g) (L := L) (m := m) hclos hcell hkind hnames (hiter _ ?_) hs
  have I : InstAt s.heap ta (subO C0 td (List.toArray vs) nl) C0 (some (dictOf [] 0)) := ⟨N.get hl, rfl, rfl, N.get hd'⟩
  have hLlt : L < s.heap.objs.size := F.ns.lt
  have below : ∀ q ∈ news, q.1 < s.heap.objs.size := fun q hq => Heap.lt_size (N q hq).1
  refine pyIter_sub (X₀.keeps F.keep) I Y ⟨s.heap.objs.size, [s.heap.objs.size, ta], [s.heap.objs.size], vs.length, (fun i m => ∃ v, (List.toArray vs)[i]? = some v ∧ m x = some v),
    (fun i h => h.IsListIter s.heap.objs.size ta i ∧ IsSeq h ta (List.toArray vs)), (fun _ => true), Inv, news, rfl, ?_⟩
  have old : ∀ b o, s.heap.get? b = some o → (s.heap.push { cls := .type "list_iterator", data := .fields #[.ref ta, .int 0 0] }).get? b = some o := fun b o e => Heap.get?_push_of_some _ e
  have gnone : g.get? s.heap.objs.size = none := by
    cases e : g.get? s.heap.objs.size with
    | none => rfl
    | some o' => exact absurd (Heap.lt_size (F.keep _ _ e)) (Nat.lt_irrefl _)
  have hsize : (List.toArray vs).size = vs.length := by simp
  exact {
    fr := F.push _
    nw := N.grown old
    src := fun C hC => by
      have S := Src.single (prog := prog) (w := w) (env := compEnvC scope cl C env) (A := A) (px := px) (it := s.heap.objs.size) (l := ta) (items := List.toArray vs) hh (lookup_relabel_local hx) (by simp [compEnvC, relabel, hkind]) (Nat.ne_of_lt (below _ hl)) hC
      rw [hsize] at S
      exact S
    size := hsz
    st := ⟨⟨_, Heap.get?_push_size _ rfl, rfl, rfl⟩, ⟨_, _, old _ _ (N.get hl), rfl⟩⟩
    live := fun b hb => by
      show b < (s.heap.push _).objs.size
      rw [Heap.size_push]
      simp only [List.mem_cons, List.not_mem_nil, or_false] at hb
      rcases hb with rfl | rfl
      · exact Nat.lt_succ_self _
      · exact Nat.lt_succ_of_lt (below _ hl)
    fresh := fun b hb => by
      simp only [List.mem_cons, List.not_mem_nil, or_false] at hb
      rcases hb with rfl | rfl
      · exact ⟨gnone, Nat.ne_of_gt hLlt⟩
      · exact ⟨(N _ hl).2.2, (N _ hl).2.1⟩
    off := fun q hq hm => by
      have e := List.mem_singleton.mp hm
      have h := below q hq
      rw [e] at h
      exact Nat.lt_irrefl _ h
    skip := fun i ys nw _ hp h => by cases hp
    len := fun i ys nw h => Nat.le_of_eq (len i ys nw h)
    zero := zero
    tests := by
      rintro C i oC own nw s₃ m₃ E' hi hB hNo F₃ N₃
      exact tests_none ⟨rfl, s₃.heap, s₃.toks, rfl, F₃, N₃⟩
    elt := by
      rintro C D i ys oC own nw s₃ m₃ E' hi ⟨v, hv, h1⟩ hp hI hNo F₃ N₃ hb
      exact helt C D s.heap.objs.size i v ys oC own nw s₃ m₃ E' (by simpa using hv) hNo h1 hI F₃ N₃ hb
    post := by
      rintro D C h₂ tk m' ys nw no F₂ N₂ hI hn hCg hCL hCD hoff
      exact hpost D C h₂ tk m' ys nw no F₂ N₂ hI hn hCg hCL hCD hoff }

/-- a pair laid in a frame that is not the ledger's -/
theorem ev_pairL {news : List (Addr × Obj)} {e1 e2 : PySem.Expr} {x1 : Nat} {pos : Pos} {Q : Value → Shared → Prop} (G : Value → Value → Prop) (_F : Fr g L s.heap m) (_N : News g L s.heap news)
    (he1 : starEach [e1, e2] env = (false, eval e1 env) :: starEach [e2] env) (he2 : starEach [e2] env = (false, eval e2 env) :: starEach [] env)
    (h : wpAny (model prog w) A (eval e1 env) (fun v1 s1 => wpAny (model prog w) A (eval e2 env) (fun v2 s2 => Stop (∃ h' tk, s2 = { s with heap := h', toks := tk } ∧ Fr g L h' m ∧ News g L h' news ∧ G v1 v2)) E s1) E s)
    (k : ∀ D h' tk v1 v2, G v1 v2 → Fr g L h' m → News g L h' ((D, tupO [v1, v2] 0) :: news) → (∀ q ∈ news, q.1 < D) → Q (.ref D) { s with heap := h', toks := tk }) :
    wpAny (model prog w) A (eval (.Tuple [e1, e2] x1 pos) env) Q E s := by
  refine Tuple_ (spliced_more (wpAny_mono h (fun v1 s1 h1 => spliced_more (wpAny_mono h1 (fun v2 s2 h2 => spliced_none ?_) fun _ _ e => e) he2) fun _ _ e => e) he1)
  obtain ⟨h', tk, rfl, F', N', hG⟩ := h2
  exact newTuple_N F' N' fun h'' F'' N'' => k _ h'' tk v1 v2 hG F'' N'' fun q hq => Heap.lt_size (N' q hq).1
end

theorem row_done {g h' : Heap} {L C D it T : Addr} {m : Str → Option Value} {oC : Obj} {own nw Z : List (Addr × Obj)} {r : Row} {rows : List Row} {ys : List Value} {i tk n : Nat} {t : Tok} {u : Value} {s₃ : Shared}
    (F' : Fr g L h' m) (N' : News g L h' ((T, tupO [.int r.code t, u] n) :: (C, oC) :: (own ++ (nw ++ Z)))) (l1 : ∀ p ∈ (C, oC) :: (own ++ (nw ++ Z)), p.1 < T)
    (hb : ∀ b ∈ [D, it], ∃ o, (b, o) ∈ own) (hI : ys.length = i ∧ RowsZ (nw ++ Z) (rows.take i) ys) (hr : rows[i]? = some r) (hu : RVAt (InZ Z) r.val u) :
    KElt g L m C D [it] ((C, oC) :: own) nw Z (fun nw' => (ys ++ [Value.ref T]).length = i + 1 ∧ RowsZ (nw' ++ Z) (rows.take (i + 1)) (ys ++ [.ref T])) s₃ { s₃ with heap := h', toks := tk } := by
  have lC := l1 _ (.head _)
  have lo : ∀ b, b ∈ [D, it] → b < T := fun b h => let ⟨o, ho⟩ := hb b h; l1 (b, o) (List.mem_cons_of_mem _ (List.mem_append_left _ ho))
  have lD := lo D (.head _)
  have li := lo it (.tail _ (.head _))
  refine ⟨h', tk, [(T, tupO [.int r.code t, u] n)], rfl, F', news_in N' fun q hq => ?_, fun q hq => ?_, by simp [hI.1], ?_⟩
  · simp only [List.mem_cons, List.mem_append, List.not_mem_nil, or_false] at hq ⊢
    rcases hq with (h | h) | (h | h) | h <;> simp [h]
  · rw [List.mem_singleton.mp hq]
    exact ⟨Nat.ne_of_gt lC, Nat.ne_of_gt lD, fun h => Nat.ne_of_gt li (List.mem_singleton.mp h)⟩
  · have hlt : i < rows.length := by
      rcases Nat.lt_or_ge i rows.length with h | h
      · exact h
      · rw [List.getElem?_eq_none h] at hr; cases hr
    have hre : rows[i] = r := by rw [List.getElem?_eq_getElem hlt] at hr; exact Option.some.inj hr
    rw [List.take_succ_eq_append_getElem hlt, hre]
    refine Paired.snoc (RowsZ.mono (fun q h => ?_) hI.2) ⟨T, _, _, rfl, n, t, rfl, ?_, hu.mono fun a o h => ?_⟩
    · exact List.mem_cons_of_mem _ h
    · exact .head _
    · exact List.mem_append_right _ h

section
variable {w : World} {A : Around} {E : Value → Shared → Prop} {s : Shared} {g : Heap} {L : Addr} {m : Str → Option Value} {mean : ExcName → Option Value} {mg mb : Str → Option Value}
theorem code_def94 {x C d : Addr} {c u : Value} {R : Result → Shared → Prop} (hC : C = 149 ∨ C = 217)
    (hroom : A.depth < recursionLimit) (X : (hd.heap_39 w.params).In s.heap) (T : Top hd.view_39 lz mean mg mb s.heap) (I : InstAt s.heap x (tagO C d c u) C (some (dictOf [] 0))) (hh : handedIn c = true)
    (k : ∀ h' tk, (∀ b o, s.heap.get? b = some o → h'.get? b = some o) → R (.ok (.ret c)) { s with heap := h', toks := tk }) :
    codeAny (model pw w) A (.call (.ref 94) ⟨[.ref x], []⟩) R s := by
  refine' enter_plain hroom X T.nolimit ?ho ?hcd ?hb ?hl ?_ ?h1 ?h2 ?h3 ?h4
  case ho => k_is
  case hcd => k_is
  case hb => exact BindsTo.of_eq rfl
  case hl => exact locs rfl
  case h1 => decide
  case h2 => rfl
  case h3 => rfl
  case h4 => rfl
  intro h₁ F'
  rcases hC with rfl | rfl
  · have I' : InstAt h₁ x (tagO 149 d c u) 149 (some (dictOf [] 0)) := InstAt.keeps' I F'.keep
    have N' : News s.heap s.heap.objs.size h₁ [] := News.nil
    try dsimp only
    repeat' (walk_at "stp")
    all_goals exact k _ _ F'.keep
  · have I' : InstAt h₁ x (tagO 217 d c u) 217 (some (dictOf [] 0)) := InstAt.keeps' I F'.keep
    have N' : News s.heap s.heap.objs.size h₁ [] := News.nil
    try dsimp only
    repeat' (walk_at "stp")
    all_goals exact k _ _ F'.keep

theorem attr_code {x C d : Addr} {c u : Value} {ex : Bool} {Q : Value → Shared → Prop} (hC : C = 149 ∨ C = 217) (hroom : A.depth + 8 < recursionLimit)
    (F : Fr g L s.heap m) (X₀ : (hd.heap_39 w.params).In g) (T₀ : Top hd.view_39 lz mean mg mb g) (I : InstAt s.heap x (tagO C d c u) C (some (dictOf [] 0))) (hh : handedIn c = true)
    (k : ∀ h' tk, KeepH s.heap h' → Q c { s with heap := h', toks := tk }) : wpAny (model pw w) A (getAttr (.ref x) (Str.ofString "code") ex) Q E s := by
  have fin : codeAny (model pw w) A.in1 (.call (.ref 94) ⟨[.ref x], []⟩) (fun r s' => match r with | .ok (.ret v) => wpAny (model pw w) A (handedOut v) Q E s' | .ok _ => False | .error e => wpAny (model pw w) A (noteIf true (.ref x) (.str (Str.ofString "code") s.toks) e) (fun _ s'' => E e s'') E s') { s with toks := s.toks + 1 } := by
    refine code_def94 (s := { s with toks := s.toks + 1 }) hC (show A.depth < recursionLimit from Nat.lt_of_le_of_lt (by omega) hroom) (X₀.keeps F.keep) (T₀.keeps F.keep) I hh fun h₄ tk₄ hk₄ => ?_
    dsimp only
    rw [handedOut_of hh]
    exact wpAny_pure (k h₄ tk₄ hk₄)
  rcases hC with rfl | rfl
  all_goals
    refine' get_prop' F X₀ I ?hg ?hc ?ha ?hn ?ht ?hp fin
    case hg => k_is
    case hc => k_is
    case ha => k_is
    case hn => k_is
    case ht => k_is
    case hp => k_is

theorem attr_value {x C d : Addr} {c u : Value} {ex : Bool} {Q : Value → Shared → Prop} (hC : C = 149 ∨ (C = 217 ∧ ∃ a items, u = .ref a ∧ IsTup s.heap a items)) (hroom : A.depth + 8 < recursionLimit)
    (F : Fr g L s.heap m) (X₀ : (hd.heap_39 w.params).In g) (T₀ : Top hd.view_39 lz mean mg mb g) (I : InstAt s.heap x (tagO C d c u) C (some (dictOf [] 0))) (hh : handedIn u = true)
    (k : ∀ h' tk, KeepH s.heap h' → Q u { s with heap := h', toks := tk }) : wpAny (model pw w) A (getAttr (.ref x) (Str.ofString "value") ex) Q E s := by
  rcases hC with rfl | ⟨rfl, a, items, rfl, hat⟩
  · refine' get_prop' F X₀ I ?hg ?hc ?ha ?hn ?ht ?hp ?_
    case hg => k_is
    case hc => k_is
    case ha => k_is
    case hn => k_is
    case ht => k_is
    case hp => k_is
    refine value_tag (s := { s with toks := s.toks + 1 }) (show A.depth < recursionLimit from Nat.lt_of_le_of_lt (by omega) hroom) (X₀.keeps F.keep) (T₀.keeps F.keep) I hh fun h₄ tk₄ hk₄ => ?_
    dsimp only
    rw [handedOut_of hh]
    exact wpAny_pure (k h₄ tk₄ hk₄)
  · refine' get_prop' F X₀ I ?hg ?hc ?ha ?hn ?ht ?hp ?_
    case hg => k_is
    case hc => k_is
    case ha => k_is
    case hn => k_is
    case ht => k_is
    case hp => k_is
    refine value_vert (s := { s with toks := s.toks + 1 }) (show A.depth < recursionLimit from Nat.lt_of_le_of_lt (by omega) hroom) (X₀.keeps F.keep) (T₀.keeps F.keep) I hat fun h₄ tk₄ hk₄ => ?_
    dsimp only
    rw [handedOut_of hh]
    exact wpAny_pure (k h₄ tk₄ hk₄)
end
end Mine

set_option Elab.async false
namespace Mine
open PySem PySem.W PyProof.Rows
local macro_rules | `(tactic| walk_at "stp") => `(tactic| first | (k_unfold; (try dsimp only)) | walk1 | (dsimp only; walk1))
local macro_rules | `(tactic| k_mem) => `(tactic| first | assumption | exact List.Mem.head _ | (refine List.Mem.tail _ ?_; k_mem) | (refine List.mem_append_right _ ?_; k_mem))
local macro_rules | `(tactic| walk_at "cut") => `(tactic| (refine slice_any (by assumption) (by assumption) (by walk_at "lst") (by constructor) (by constructor) (by omega) (by with_unfolding_all rfl) (by intro _; with_unfolding_all rfl) ?_; intro D' h' a' b' ea' eb' F' N'; clear ea' eb'; (try k_sweep)))
local macro_rules | `(tactic| walk_at "add") => `(tactic| (refine add_any (by assumption) (by assumption) (by walk_at "lst") (by walk_at "lst") ?sz ?go; (case' go => (intro D' h' F' N'; (try k_sweep)))))
local macro_rules | `(tactic| walk_at "lst") => `(tactic| exact ⟨_, News.get (by assumption) (by k_mem), rfl, _, rfl⟩)
local macro_rules | `(tactic| walk_at "run") => `(tactic| repeat' ((fail_if_success (with_reducible show wpAny _ _ (exec (PySem.Stmt.For _ _ _ _ _) _) _ _ _)); (fail_if_success (with_reducible show wpAny _ _ (exec (PySem.Stmt.If _ _ _ _) _) _ _ _)); (fail_if_success (with_reducible show wpAny _ _ (eval (PySem.Expr.Call (PySem.Expr.Name (PySem.Str.ofString "_law_number") _) _ _ _) _) _ _ _)); (fail_if_success (with_reducible show wpAny _ _ (call (Value.ref 460) _ _) _ _ _)); (fail_if_success (with_reducible show wpAny _ _ (subscriptTail _ _ _ _) _ _ _)); (fail_if_success (with_reducible show wpAny _ _ (eval (PySem.Expr.Tuple _ _ _) _) _ _ _)); (fail_if_success (with_reducible show wpAny _ _ (call (Value.builtin _) [Value.ref _, _]) _ _ _)); (fail_if_success (with_reducible show wpAny _ _ (call (Value.builtin _) [Value.ref _]) _ _ _)); (fail_if_success (with_reducible show wpAny _ _ (binaryOp _ (Value.ref _) _) _ _ _)); (fail_if_success (with_reducible show wpAny _ _ (call (Value.ref _) _ _) _ _ _)); (fail_if_success (with_reducible show wpAny _ _ (eval (PySem.Expr.ListComp _ _ _ _) _) _ _ _)); (fail_if_success (with_reducible show wpAny _ _ (compareOp _ (Value.ref _) (Value.ref _)) _ _ _)); walk_at "stp"))
local macro_rules | `(tactic| walk_at "rua") => `(tactic| repeat' ((fail_if_success (with_reducible show wpAny _ _ (exec (PySem.Stmt.For _ _ _ _ _) _) _ _ _)); (fail_if_success (with_reducible show wpAny _ _ (exec (PySem.Stmt.If _ _ _ _) _) _ _ _)); (fail_if_success (with_reducible show wpAny _ _ (eval (PySem.Expr.Call (PySem.Expr.Name (PySem.Str.ofString "_law_number") _) _ _ _) _) _ _ _)); (fail_if_success (with_reducible show wpAny _ _ (call (Value.ref 460) _ _) _ _ _)); (fail_if_success (with_reducible show wpAny _ _ (subscriptTail _ _ _ _) _ _ _)); (fail_if_success (with_reducible show wpAny _ _ (eval (PySem.Expr.Tuple _ _ _) _) _ _ _)); (fail_if_success (with_reducible show wpAny _ _ (call (Value.builtin _) [Value.ref _, _]) _ _ _)); (fail_if_success (with_reducible show wpAny _ _ (call (Value.builtin _) [Value.ref _]) _ _ _)); (fail_if_success (with_reducible show wpAny _ _ (binaryOp _ (Value.ref _) _) _ _ _)); (fail_if_success (with_reducible show wpAny _ _ (call (Value.ref _) _ _) _ _ _)); (fail_if_success (with_reducible show wpAny _ _ (eval (PySem.Expr.ListComp _ _ _ _) _) _ _ _)); (fail_if_success (with_reducible show wpAny _ _ (compareOp _ (Value.ref _) (Value.ref _)) _ _ _)); (fail_if_success (with_reducible show wpAny _ _ (getAttr _ _ _) _ _ _)); walk_at "stp"))
local macro_rules | `(tactic| walk_at "row") => `(tactic| ((refine ev_row (by assumption) (by assumption) (by assumption) (by assumption) (by rfl) (by rfl) ?ev ?go); (case' go => (intro D' h' tk' Z' r' F' N' ht' ac' ok'; (try k_sweep)))))
local macro_rules | `(tactic| walk_at "str") => `(tactic| (walk_at "run"; refine stop_in ⟨_, _, _, ⟨_, .str _⟩, _, rfl, by assumption, by assumption, fun _ h => h, by assumption, ?ok, rfl, ⟨_, rfl⟩⟩; (case ok => exact okStr (by first | assumption | decide) (by decide +kernel))))
local macro_rules | `(tactic| walk_at "num") => `(tactic| (refine Call_ ?_; walk_at "run"; refine wpAny_call (num_call (by assumption) (by assumption) (by assumption) (by assumption) (by assumption) (by assumption) (by assumption) (by assumption) (by omega) (by omega) ?_); intro h' tk' i' t' F' N'; (try k_sweep)))
theorem obj_ne {h : Heap} {a b : Addr} {o o' : Obj} {T T' : String} (h1 : h.get? a = some o) (h2 : h.get? b = some o') (c1 : o.cls = .type T) (c2 : o'.cls = .type T') (hT : T ≠ T') : a ≠ b := fun e => by
  subst e; rw [h1] at h2; cases h2; rw [c1] at c2; exact hT (Value.type.inj c2)
theorem tups_of {Z : List (Addr × Obj)} (h : ∀ q ∈ Z, q.2.cls = .type "tuple") : ∀ q ∈ Z, q.2.cls = .type "tuple" := h
abbrev rgO (x left : Int) : Obj := { cls := .type "range_iterator", dict := none, data := .fields #[rawInt x, rawInt left, rawInt 1], slots := #[] }
theorem news_but {g h h' : Heap} {L it : Addr} {news : List (Addr × Obj)} (N : News g L h news) (hk : ∀ b o, b ≠ L → b ≠ it → h.get? b = some o → h'.get? b = some o) (hn : ∀ q ∈ news, q.1 ≠ it) : News g L h' news :=
  fun q hq => ⟨hk _ _ (N q hq).2.1 (hn q hq) (N q hq).1, (N q hq).2⟩

set_option maxRecDepth 100000 in
set_option maxHeartbeats 0 in
theorem law_main : PySem.Challenge.rw_vz0017_01.Holds := by
  refine hd ?_
  k_fill
  intro w s₀ s₁ mg mb G Y fa o pm cd doc dV kV ho hd' hcd hD hmg hg args vals as hpre hlay hrd hwl hlo
  have KX := kIn_of Y
  have X := (Ground.X G).1
  have V := (Ground.X G).2
  try w_nolog (first | (have GL := glob_more (Ground.glob G (by first | k_qdec | decide +kernel)) V) | (have GL := glob_more (Ground.glob G (by decide +kernel)) V))
  refine Ground.open G ?_
  intro T B D TE TW
  try (refine guard_noD D (by decide +kernel) ?_; clear D)
  obtain ⟨_, _, M⟩ := bmod_of_top T
  have TA := at_of_top T
  try (obtain ⟨_, _, he, B0⟩ := based_of_top T rfl hmg ho hd'; have he' : cd = _ := he; subst he'; clear he)
  clear hmg
  wrow_args hpre hlay hrd hwl hlo
  refine enter_call ?_
  w_top on
  have K0 : Below callerA s₁.heap [] s₁.heap := below_caller (Top.heap T)
  w_call any ho hd' hcd hD T F
  clear hd' TA
  k_drop
  with_reducible rename IntsAre _ _ => hInt
  with_reducible rename ¬ _ => hc63
  with_reducible rename Heap.IsList _ _ _ => hLst
  rename_i ns _ _ _ _ _ _ _ sl vals _ _ _ _ _ _ _ _
  have hl63 : ns.length ≤ 63 := by omega
  walk_at "run"
  with_reducible rename Fr _ _ _ _ => F1
  with_reducible rename News _ _ _ _ => N1
  rename_i h1 ln h2 l0 h3 lr h4 l1 h5
  obtain ⟨tA, tB, tC, N1⟩ : ∃ t1 t2 t3, News s₁.heap s₁.heap.objs.size h5 [(lr, W.listOf #[] 0), (ln, W.listOf #[.str (Str.ofString "A") t1, .str (Str.ofString "AB") t2, .str (Str.ofString "ACAD_A") t3] 0)] := ⟨_, _, _, N1⟩
  generalize hnO : W.listOf #[.str (Str.ofString "A") tA, .str (Str.ofString "AB") tB, .str (Str.ofString "ACAD_A") tC] 0 = nO at N1
  refine wpAny_noRaise (wpAny_mono (show wpAny _ _ _ (fun f s' => f = Flow.next ∧ ∃ h' tk m' vs rows no Zt, s' = { s₁ with heap := h', toks := tk } ∧ Fr s₁.heap s₁.heap.objs.size h' m' ∧ News s₁.heap s₁.heap.objs.size h' ((lr, W.listOf (List.toArray vs) no) :: (ln, nO) :: Zt) ∧
    RowsZ Zt rows vs ∧ (∀ r ∈ rows, r.Ok) ∧ (∀ q ∈ Zt, q.2.cls = .type "tuple") ∧ rows.length ≤ 7 ∧ m' (Str.ofString "script") = some (.ref sl) ∧ m' (Str.ofString "names") = some (.ref ln) ∧ m' (Str.ofString "rows") = some (.ref lr)) (fun _ _ => False) _ from ?loop) (fun f s' hf => ?rest) fun _ _ e => e)
  case loop =>
    refine wpAny_For ?_ (by intro _; rfl)
    walk_at "run"
    walk_at "num"
    walk_at "run"
    with_reducible rename IsRange _ _ _ _ _ _ _ _ => hR
    with_reducible rename Fr _ _ _ _ => F2
    with_reducible rename News _ _ _ _ => N2
    rename_i h6 tk6 n0' t6 F6' N6' e6 hb6 h7 tk7 t71 t72 t73 hk7
    have hn0 : 0 ≤ n0'.fmod 8 ∧ n0'.fmod 8 < 8 := ⟨Int.fmod_nonneg_of_pos _ (by decide), Int.fmod_lt_of_pos _ (by decide)⟩
    generalize n0'.fmod 8 = n0 at hR hn0
    refine wpAny_pyIter_range hR (small_one (by omega) (by omega) (by omega) (by omega)) ?_
    have hrs : Builtin.Range.rangeSize 0 n0 1 = n0 := by rw [rangeSize_one]; split <;> omega
    rw [hrs]
    have F3 := F2.push (rgO 0 n0)
    have N3 := News.push F2 N2 (rgO 0 n0)
    have hitL : h7.objs.size ≠ s₁.heap.objs.size := Nat.ne_of_gt F2.ns.lt
    have hitg : s₁.heap.get? h7.objs.size = none := by
      cases hq : s₁.heap.get? h7.objs.size with
      | none => rfl
      | some o => exact absurd (Heap.lt_size (F2.keep _ _ hq)) (Nat.lt_irrefl _)
    refine codeAny_forLoop (fun n s' => ∃ h' tk m' i vs rows no Zt, s' = { s₁ with heap := h', toks := tk } ∧ Fr s₁.heap s₁.heap.objs.size h' m' ∧ News s₁.heap s₁.heap.objs.size h' ((lr, W.listOf (List.toArray vs) no) :: (h7.objs.size, rgO ((i : Nat) : Int) (n0 - i)) :: (ln, nO) :: Zt) ∧
      RowsZ Zt rows vs ∧ (∀ r ∈ rows, r.Ok) ∧ (∀ q ∈ Zt, q.2.cls = .type "tuple") ∧ rows.length = i ∧ ((i : Nat) : Int) ≤ n0 ∧ n = n0.toNat + 1 - i ∧ m' (Str.ofString "script") = some (.ref sl) ∧ m' (Str.ofString "names") = some (.ref ln) ∧ m' (Str.ofString "rows") = some (.ref lr)) ?turn (n0.toNat + 1) ?init
    case init =>
      refine ⟨_, _, _, 0, [], [], 0, [], rfl, F3, fun q hq => ?_, Paired.nil, by simp, by simp, rfl, by omega, rfl, rfl, rfl, rfl⟩
      simp only [List.mem_cons, List.not_mem_nil, or_false] at hq
      rcases hq with rfl | rfl | rfl
      · exact N3 _ (List.mem_cons_of_mem _ (.head _))
      · have := N3 _ (.head _)
        simpa using this
      · exact N3 _ (List.mem_cons_of_mem _ (List.mem_cons_of_mem _ (.head _)))
    case turn =>
      rintro n s' ⟨h8, tk8, m8, i, vs, rows, no, Zt, rfl, F8, N8, hrw, hok, htup, hlen, hin, rfl, hm1, hm2, hm3⟩
      by_cases hlt : ((i : Nat) : Int) < n0
      · refine wpAny_pyNext_range_item (N8.get (List.mem_cons_of_mem _ (.head _))) (by omega) fun h9 hit9 hs9 => ?_
        replace hs9 : Heap.SameBut h7.objs.size h8 h9 := hs9
        refine storeAt rfl rfl (F8.ns.sameBut hs9 (Ne.symm hitL)) fun h10 hn10 hk10 => ?_
        replace hk10 : ∀ b o, b ≠ s₁.heap.objs.size → h9.get? b = some o → h10.get? b = some o := hk10
        have up : ∀ b o, b ≠ s₁.heap.objs.size → b ≠ h7.objs.size → h8.get? b = some o → h10.get? b = some o := fun b o h1 h2 e => hk10 b o h1 (hs9.extBut b o h2 e)
        have hZne : ∀ q ∈ Zt, q.1 ≠ h7.objs.size := fun q hq => obj_ne (N8 q (List.mem_cons_of_mem _ (List.mem_cons_of_mem _ (List.mem_cons_of_mem _ hq)))).1 (N8.get (List.mem_cons_of_mem _ (.head _))) (htup q hq) rfl (by decide)
        have hZlr : ∀ q ∈ Zt, q.1 ≠ lr := fun q hq => obj_ne (N8 q (List.mem_cons_of_mem _ (List.mem_cons_of_mem _ (List.mem_cons_of_mem _ hq)))).1 (N8.get (.head _)) (htup q hq) rfl (by decide)
        have hlrne : lr ≠ h7.objs.size := obj_ne (N8.get (.head _)) (N8.get (List.mem_cons_of_mem _ (.head _))) rfl rfl (by decide)
        have hlnne : ln ≠ h7.objs.size := obj_ne (N8.get (List.mem_cons_of_mem _ (List.mem_cons_of_mem _ (.head _)))) (N8.get (List.mem_cons_of_mem _ (.head _))) (by rw [← hnO]) rfl (by decide)
        have N10 : News s₁.heap s₁.heap.objs.size h10 ((lr, W.listOf (List.toArray vs) no) :: (h7.objs.size, rgO ((i + 1 : Nat) : Int) (n0 - (i + 1 : Nat))) :: (ln, nO) :: Zt) := fun q hq => by
          rcases List.mem_cons.mp hq with rfl | hq
          · have := N8 _ (.head _); exact ⟨up _ _ this.2.1 hlrne this.1, this.2⟩
          rcases List.mem_cons.mp hq with rfl | hq
          · refine ⟨hk10 _ _ hitL ?_, hitL, hitg⟩
            have e1 : (((i + 1 : Nat)) : Int) = (i : Int) + 1 := by push_cast; rfl
            rw [e1, show n0 - ((i : Int) + 1) = n0 - i - 1 by omega]
            exact hit9
          rcases List.mem_cons.mp hq with rfl | hq
          · have := N8 _ (List.mem_cons_of_mem _ (List.mem_cons_of_mem _ (.head _))); exact ⟨up _ _ this.2.1 hlnne this.1, this.2⟩
          have := N8 _ (List.mem_cons_of_mem _ (List.mem_cons_of_mem _ (List.mem_cons_of_mem _ hq)))
          exact ⟨up _ _ this.2.1 (hZne q hq) this.1, this.2⟩
        replace hn10 : h10.Ns s₁.heap.objs.size (fun y => if y = Str.ofString "k" then some (.int ((i : Nat) : Int) tk8) else m8 y) := hn10
        rw [upd_eq hm1] at hn10; rw [upd_eq hm2] at hn10; rw [upd_eq hm3] at hn10
        dsimp only at hn10
        have F10 := (⟨hn10, fun b o hb => up b o (fun e => Nat.lt_irrefl _ (e ▸ Heap.lt_size hb)) (fun e => by rw [e, hitg] at hb; cases hb) (F8.keep b o hb), Nat.le_refl _⟩ : Fr s₁.heap s₁.heap.objs.size h10 _)
        subst hnO
        clear hn10 hk10 hs9 hit9 F8 N8 F2 N2 F3 N3 hm1 hm2 hm3 hk7 hR up
        refine wpAny_stop ?_
        walk_at "run"
        walk_at "num"
        rename_i hp tkp pk tp Fp Np
        walk_at "run"
        with_reducible rename News _ _ _ _ => N11
        refine sub_three ⟨_, N11.get (List.mem_cons_of_mem _ (List.mem_cons_of_mem _ (.head _))), rfl, _, rfl⟩ (fmod_in _ 3 (by decide)) (by with_unfolding_all rfl) fun nm tnm hnm => ?_
        rcases hnm with rfl | rfl | rfl
        all_goals
          walk_at "run"
          with_reducible rename News _ _ _ _ => N12
          refine sub_codes ⟨_, N12.get (.head _), rfl, _, rfl⟩ (fmod_in _ 6 (by decide)) (by with_unfolding_all rfl) fun c tc hc1 hc2 hc3 => ?_
          walk_at "run"
          with_reducible rename News _ _ _ _ => N13
          have N14 := tailN N13
          clear N13
          have hok0 : ∀ r ∈ rows, r.Ok := hok
          walk_at "row"
          case ev => walk_at "str"
          walk_at "run"
          walk_at "row"
          case ev => walk_at "str"
          walk_at "run"
          walk_at "row"
          case ev => walk_at "str"
          walk_at "run"
          walk_at "row"
          case ev => walk_at "str"
          walk_at "run"
          walk_at "row"
          case ev => walk_at "str"
          walk_at "run"
          walk_at "row"
          case ev => walk_at "str"
          walk_at "run"
          walk_at "row"
          case ev => walk_at "str"
          walk_at "run"
          walk_at "row"
          case ev =>
            walk_at "run"
            with_reducible rename News _ _ _ _ => N15
            refine sub_two ⟨_, N15.get (.head _), rfl, _, rfl⟩ (fmod_in _ 2 (by decide)) (by with_unfolding_all rfl) ?_ ?_
            · replace N15 := tailN N15
              walk_at "str"
            · replace N15 := tailN N15
              walk_at "str"
          walk_at "run"
          walk_at "row"
          case ev => walk_at "str"
          walk_at "run"
          walk_at "row"
          case ev => walk_at "str"
          walk_at "run"
          walk_at "row"
          case ev =>
            walk_at "run"
            walk_at "stp"
            walk_at "run"
            refine stop_in ⟨_, _, _ :: _, ⟨_, .tup _⟩, _, rfl, by assumption, newsBack (by assumption), fun _ h => .tail _ h, fun q hq => ?tup, okTup, rfl, ⟨_, _, _, _, _, rfl, .head _⟩⟩
            case tup => rcases List.mem_cons.mp hq with rfl | hq <;> first | rfl | exact (by assumption : ∀ q ∈ _, q.2.cls = .type "tuple") _ hq
          walk_at "run"
          walk_at "row"
          case ev =>
            walk_at "run"
            refine stop_in ⟨_, _, _, ⟨_, .int _⟩, _, rfl, by assumption, by assumption, fun _ h => h, by assumption, okInt (by decide) (by decide), rfl, ⟨_, rfl⟩⟩
          walk_at "run"
          with_reducible rename News _ _ _ _ => N16
          with_reducible rename RowsZ _ _ _ => Acc
          with_reducible rename ∀ r' ∈ _, Row.Ok r' => okA
          have tupA := tups_of (by assumption)
          simp only [List.append_assoc, List.cons_append, List.nil_append] at Acc okA
          refine sub_12 ⟨_, N16.get (.head _), rfl, _, rfl⟩ Acc okA rfl (by with_unfolding_all rfl) fun r a cv u hra hrok => ?_
          replace N16 := tailN N16
          walk_at "run"
          with_reducible rename Fr _ _ _ _ => F16
          have hvl := hrw.length
          refine wpAny_list_append_plain (hsz := by rw [List.size_toArray, sizeLine_eq]; omega) ⟨_, N16.get (.head _)⟩ fun h20 hl20 hs20 => ?_
          obtain ⟨n20, hl20⟩ := hl20
          rw [List.push_toArray] at hl20
          have hlr := N16 _ (.head _)
          have N20 : News s₁.heap s₁.heap.objs.size h20 ((lr, W.listOf (List.toArray (vs ++ [.ref a])) n20) :: _) := fun q hq => by
            rcases List.mem_cons.mp hq with rfl | hq
            · exact ⟨hl20, hlr.2⟩
            · have := N16 q (List.mem_cons_of_mem _ hq)
              refine ⟨Heap.SameBut.extBut hs20 _ _ ?_ this.1, this.2⟩
              rcases List.mem_cons.mp hq with rfl | hq
              · exact obj_ne this.1 hlr.1 rfl rfl (by decide)
              rcases List.mem_cons.mp hq with rfl | hq
              · exact Nat.ne_of_lt l1
              · exact obj_ne this.1 hlr.1 (tupA q hq) rfl (by decide)
          have F20 := (⟨F16.ns.sameBut hs20 (Ne.symm hlr.2.1), fun b o hb => Heap.SameBut.extBut hs20 _ _ (fun e => by rw [e, hlr.2.2] at hb; cases hb) (F16.keep b o hb), Nat.le_refl _⟩ : Fr s₁.heap s₁.heap.objs.size h20 _)
          clear F16 N16
          walk_at "run"
          refine stop_in (P := ∃ m, m < n0.toNat + 1 - i ∧ _) ⟨n0.toNat + 1 - (i + 1), by omega, _, _, _, i + 1, vs ++ [.ref a], rows ++ [r], _, _, rfl, F20, N20, Paired.snoc (acc_old Acc hvl) ⟨a, cv, u, rfl, hra⟩, ?_, tupA, by simp [hlen], by omega, rfl, rfl, rfl, rfl⟩
          intro r' hr'
          rcases List.mem_append.mp hr' with h | h
          · exact hok _ h
          · rw [List.mem_singleton.mp h]; exact hrok
      · refine wpAny_pyNext_range_end rfl (N8.get (List.mem_cons_of_mem _ (.head _))) (by omega) fun h9 hk9 => ?_
        replace hk9 : Heap.ExtBut h7.objs.size h8 h9 := hk9
        refine wpAny_execs_nil ⟨rfl, h9, _, m8, vs, rows, no, Zt, rfl, ⟨F8.ns.at' fun o e => hk9 _ _ (Ne.symm hitL) e, fun b o hb => hk9 _ _ (fun e => by rw [e, hitg] at hb; cases hb) (F8.keep b o hb), Nat.le_refl _⟩, fun q hq => ?_, hrw, hok, htup, by omega, hm1, hm2, hm3⟩
        have hit8 := N8.get (List.mem_cons_of_mem _ (.head _))
        rcases List.mem_cons.mp hq with rfl | hq
        · have := N8 _ (.head _); exact ⟨hk9 _ _ (obj_ne this.1 hit8 rfl rfl (by decide)) this.1, this.2⟩
        rcases List.mem_cons.mp hq with rfl | hq
        · have := N8 _ (List.mem_cons_of_mem _ (List.mem_cons_of_mem _ (.head _))); exact ⟨hk9 _ _ (obj_ne this.1 hit8 (by rw [← hnO]) rfl (by decide)) this.1, this.2⟩
        have := N8 _ (List.mem_cons_of_mem _ (List.mem_cons_of_mem _ (List.mem_cons_of_mem _ hq)))
        exact ⟨hk9 _ _ (obj_ne this.1 hit8 (htup q hq) rfl (by decide)) this.1, this.2⟩
  case rest =>
    obtain ⟨rfl, h11, tk11, m11, vs, rows, no, Z, rfl, F11, N11, hrw, hok, htup, hlen, hm1, hm2, hm3⟩ := hf
    rw [upd_eq hm1] at F11; rw [upd_eq hm2] at F11; rw [upd_eq hm3] at F11
    dsimp only at F11
    subst hnO
    obtain ⟨Z0, hZ0⟩ : ∃ Z0, Z0 = ((lr, W.listOf (List.toArray vs) no) :: (ln, W.listOf #[.str (Str.ofString "A") tA, .str (Str.ofString "AB") tB, .str (Str.ofString "ACAD_A") tC] 0) :: Z) := ⟨_, rfl⟩
    rw [← hZ0] at N11
    have hlr : (lr, W.listOf (List.toArray vs) no) ∈ Z0 := by rw [hZ0]; exact .head _
    have hln : (ln, W.listOf #[.str (Str.ofString "A") tA, .str (Str.ofString "AB") tB, .str (Str.ofString "ACAD_A") tC] 0) ∈ Z0 := by rw [hZ0]; exact .tail _ (.head _)
    replace hrw : RowsZ Z0 rows vs := RowsZ.mono (fun q hq => by rw [hZ0]; exact .tail _ (.tail _ hq)) hrw
    have hvl := hrw.length
    clear F1 N1 hm1 hm2 hm3 htup hZ0
    walk_at "run"
    walk_at "num"
    rename_i hp2 tkq pq tq Fq Nq
    walk_at "run"
    refine wpAny_noRaise (wpAny_mono (show wpAny _ _ _ (fun f s' => f = Flow.next ∧ Stop (∃ h' tk m' lr vs rows no Z, s' = { s₁ with heap := h', toks := tk } ∧ Fr s₁.heap s₁.heap.objs.size h' m' ∧ News s₁.heap s₁.heap.objs.size h' Z ∧ (lr, W.listOf (List.toArray vs) no) ∈ Z ∧ (ln, W.listOf #[.str (Str.ofString "A") tA, .str (Str.ofString "AB") tB, .str (Str.ofString "ACAD_A") tC] 0) ∈ Z ∧
      RowsZ Z rows vs ∧ (∀ r ∈ rows, r.Ok) ∧ rows.length ≤ 40 ∧ m' (Str.ofString "names") = some (.ref ln) ∧ m' (Str.ofString "rows") = some (.ref lr))) (fun _ _ => False) _ from ?iff) (fun f s' hf => ?rest2) fun _ _ e => e)
    case iff =>
      walk_at "stp"
      walk_at "run"
      rotate_left
      · exact stop_in ⟨_, _, _, lr, vs, rows, no, Z0, rfl, by assumption, by assumption, hlr, hln, hrw, hok, by omega, rfl, rfl⟩
      walk_at "stp"
      walk_at "run"
      obtain ⟨nl, hnl⟩ : ∃ n : Nat, vs.toArray.size = n := ⟨_, rfl⟩
      have hnl2 : nl = rows.length := by rw [← hnl, List.size_toArray, hvl]
      refine PySem.Calls.call_len_list (items := vs.toArray) (by walk_at "lst") (by rw [hnl]; omega) ?_
      rw [hnl]
      walk_at "stp"
      walk_at "stp"
      refine mod_abs (succ_pos' _) fun ka ta hka hka2 => ?_
      walk_at "run"
      refine sub_three (by walk_at "lst") (fmod_in _ 3 (by decide)) (by with_unfolding_all rfl) fun nm tnm hnm => ?_
      have hnml : nm.length ≤ 16 := by rcases hnm with rfl | rfl | rfl <;> decide
      walk_at "run"
      all_goals
        walk_at "cut"
        rename_i Di hi ai bi Fi Ni
        walk_at "run"
        walk_at "cut"
        rename_i Dj hj aj bj Fj Nj
        walk_at "run"
        refine ev_pair (fun v1 v2 => ∃ t t', v1 = .int 1000 t ∧ v2 = .str (nm ++ Str.ofString "_BEGIN") t') (by assumption) (by assumption) (by rfl) (by rfl) ?ev fun D21 h21 tk21 v1 v2 hG F21 N21 => ?_
        case ev =>
          walk_at "run"
          exact stop_in ⟨_, _, rfl, by assumption, by assumption, _, _, rfl, rfl⟩
        obtain ⟨_, _, rfl, rfl⟩ := hG
        walk_at "run"
        refine add_any (by assumption) (by assumption) (by walk_at "lst") (by walk_at "lst") ?sz fun E1 e1 G1 M1 => ?_
        case sz => (simp only [List.length_append, List.length_cons, List.length_nil, List.length_take, List.length_drop]; omega)
        walk_at "run"
        refine add_any (by assumption) (by assumption) (by walk_at "lst") (by walk_at "lst") ?sz fun E2 e2 G2 M2 => ?_
        case sz => (simp only [List.length_append, List.length_cons, List.length_nil, List.length_take, List.length_drop]; omega)
        walk_at "run"
        refine ev_pair (fun v1 v2 => ∃ t t', v1 = .int 1000 t ∧ v2 = .str (nm ++ Str.ofString "_BEGIN") t') (by assumption) (by assumption) (by rfl) (by rfl) ?ev fun D22 h22 tk22 v1 v2 hG F22 N22 => ?_
        case ev =>
          walk_at "run"
          exact stop_in ⟨_, _, rfl, by assumption, by assumption, _, _, rfl, rfl⟩
        obtain ⟨_, _, rfl, rfl⟩ := hG
        walk_at "run"
        refine mul_any (by assumption) (by assumption) (by walk_at "lst") (fmod_in _ 2 (by decide)).1 (fmod_in _ 2 (by decide)).2 (by simp) fun Dm hm nm1 hnm1 Fm Nm => ?_
        have hrep := repLen (x := Value.ref D22) hnm1
        walk_at "run"
        refine add_any (by assumption) (by assumption) (by walk_at "lst") (by walk_at "lst") ?sz fun E3 e3 G3 M3 => ?_
        case sz => (simp only [List.length_append, List.length_cons, List.length_nil, List.length_take, List.length_drop]; omega)
        walk_at "run"
        refine ev_pair (fun v1 v2 => ∃ t t', v1 = .int 1000 t ∧ v2 = .str (Str.ofString "text") t') (by assumption) (by assumption) (by rfl) (by rfl) ?ev fun D23 h23 tk23 v1 v2 hG F23 N23 => ?_
        case ev =>
          walk_at "run"
          exact stop_in ⟨_, _, rfl, by assumption, by assumption, _, _, rfl, rfl⟩
        obtain ⟨_, _, rfl, rfl⟩ := hG
        walk_at "run"
        refine add_any (by assumption) (by assumption) (by walk_at "lst") (by walk_at "lst") ?sz fun E4 e4 G4 M4 => ?_
        case sz => (simp only [List.length_append, List.length_cons, List.length_nil, List.length_take, List.length_drop]; omega)
        walk_at "run"
        refine ev_pair (fun v1 v2 => ∃ t t', v1 = .int 1000 t ∧ v2 = .str (nm ++ Str.ofString "_END") t') (by assumption) (by assumption) (by rfl) (by rfl) ?ev fun D24 h24 tk24 v1 v2 hG F24 N24 => ?_
        case ev =>
          walk_at "run"
          exact stop_in ⟨_, _, rfl, by assumption, by assumption, _, _, rfl, rfl⟩
        obtain ⟨_, _, rfl, rfl⟩ := hG
        walk_at "run"
        refine add_any (by assumption) (by assumption) (by walk_at "lst") (by walk_at "lst") ?sz fun E5 e5 G5 M5 => ?_
        case sz => (simp only [List.length_append, List.length_cons, List.length_nil, List.length_take, List.length_drop]; omega)
        walk_at "run"
        walk_at "cut"
        rename_i Dk hk ak bk Fk Nk
        walk_at "run"
        refine add_any (by assumption) (by assumption) (by walk_at "lst") (by walk_at "lst") ?sz fun E6 e6 G6 M6 => ?_
        case sz => (simp only [List.length_append, List.length_cons, List.length_nil, List.length_take, List.length_drop]; omega)
        walk_at "run"
        with_reducible rename News _ _ _ _ => Nf
        with_reducible rename Fr _ _ _ _ => Ff
        have hrepR := repLen (x := (⟨1000, .str (nm ++ Str.ofString "_BEGIN")⟩ : Row)) hnm1
        have c1 := cutLen rows aj bj
        have c2 := cutLen rows ai bi
        have c3 := cutLen rows ak bk
        refine stop_in ⟨_, _, _, E6, _, (((((rows.drop aj).take bj ++ [⟨1000, .str (nm ++ Str.ofString "_BEGIN")⟩]) ++ (rows.drop ai).take bi) ++ (List.replicate nm1 [⟨1000, .str (nm ++ Str.ofString "_BEGIN")⟩]).flatten) ++ [⟨1000, .str (Str.ofString "text")⟩] ++ [⟨1000, .str (nm ++ Str.ofString "_END")⟩]) ++ (rows.drop ak).take bk, _, _, rfl, Ff, Nf, .head _, ?m2, ?rz, ?ok, ?len, rfl, rfl⟩
        case m2 => k_mem
        case rz =>
          have hrwf := mono_in Nf hrw fun q hq => by repeat (first | exact hq | apply List.mem_cons_of_mem)
          exact RowsZ.app (RowsZ.app (RowsZ.app (RowsZ.app (RowsZ.app (RowsZ.app (RowsZ.part hrwf aj bj) (oneZ (by k_mem))) (RowsZ.part hrwf ai bi)) (RowsZ.rep (oneZ (by k_mem)) nm1)) (oneZ (by k_mem))) (oneZ (by k_mem))) (RowsZ.part hrwf ak bk)
        case ok => exact okApp (okApp (okApp (okApp (okApp (okApp (okPart hok aj bj) (okOne (okStr (by decide) (strOkB hnm).1))) (okPart hok ai bi)) (okRep (okOne (okStr (by decide) (strOkB hnm).1)) nm1)) (okOne (okStr (by decide) (by decide +kernel)))) (okOne (okStr (by decide) (strOkB hnm).2))) (okPart hok ak bk)
        case len => (simp only [List.length_append, List.length_cons, List.length_nil]; omega)
    case rest2 =>
      obtain ⟨rfl, h12, tk12, m12, lr2, vs2, rows2, no2, Z2, rfl, F12, N12, hlr2, hln2, hrw2, hok2, hlen2, hm1, hm2⟩ := hf
      rw [upd_eq hm1] at F12; rw [upd_eq hm2] at F12
      dsimp only at F12
      clear hm1 hm2 hrw hok hlen hvl hlr hln
      have hvl2 := hrw2.length
      walk_at "run"
      obtain ⟨tups, htv, htp⟩ := tups_ex hrw2
      subst htv
      have htl := htp.length
      have hnone : ∀ b o, s₁.heap.get? b = some o → True := fun _ _ _ => trivial
      rw [eval_ListComp]
      refine pair_comp (fun i ys nw => ys.length = i ∧ Paired (TagZ (InZ (nw ++ Z2))) (rows2.take i) ys) ⟨rfl, by simpa using Paired.nil⟩ (fun i ys nw h => h.1) rfl (by assumption) (by assumption) hlr2 (fun q hq => ?tup) (by rw [sizeLine_eq]; omega) (by with_unfolding_all rfl) (by decide) rfl (by decide) rfl rfl (by decide) ?itr ?ele ?pst
      case tup =>
        obtain ⟨r, hr, n, t, he, hz, hv⟩ := paired_mem htp hq
        exact ⟨n, hz⟩
      case itr =>
        intro Q' hQ'
        walk_at "run"
        exact hQ'
      case ele =>
        intro C D it i q ys oC own nw s₃ m₃ E' hq hNo h1 h2 hI F₃ N₃ hb
        obtain ⟨r, hr, hrz⟩ := pairedGet htp hq
        obtain ⟨aq, cq, uq⟩ := q
        obtain ⟨n, t, hce, hz, hv⟩ := hrz
        replace hce : cq = .int r.code t := hce
        subst hce
        have hrok := hok2 r (List.mem_of_getElem? hr)
        clear F12 N12
        by_cases hc : r.code = 1010
        · obtain ⟨j, hj⟩ := hrok.vert hc
          obtain ⟨rc, rv⟩ := r
          replace hc : rc = 1010 := hc
          replace hj : rv = .tup j := hj
          subst hc hj
          obtain ⟨ap, np, t1, t2, t3, hue, hap⟩ := hv
          replace hue : uq = .ref ap := hue
          subst hue
          walk_at "run"
          · refine vert_new K0 (by exact F₃) KX (by exact N₃) T (List.mem_cons_of_mem _ (List.mem_append_right _ (List.mem_append_right _ hap))) ?_
            intro x d h' tk F' N' l1 l2
            exact elt_done (s₃ := s₃) (tk := tk) F' N' l1 l2 hb hI hr ⟨ap, np, t1, t2, t3, rfl, hap⟩ (.inr ⟨rfl, rfl⟩)
          · exact absurd rfl (by assumption)
        · walk_at "run"
          · exact absurd (by assumption) hc
          · refine tag_new K0 (by exact F₃) KX (by exact N₃) T ?_
            intro x d h' tk F' N' l1 l2
            exact elt_done (s₃ := s₃) (tk := tk) F' N' l1 l2 hb hI hr hv (.inl ⟨rfl, hc⟩)
      case pst =>
        intro D C h13 tk13 m13 ys nw no13 F13 N13 hI hn hCg hCL hCD off
        refine post_none F13 N13 hn hCg hCL (fun q hq => ?_) fun h14 F14 N14 => ?_
        · rcases List.mem_cons.mp hq with rfl | hq
          · exact Ne.symm hCD
          · exact (off q hq).1
        clear F13 N13 hn F12 N12
        dsimp only
        have hI2 : Paired (TagZ (InZ (nw ++ Z2))) rows2 ys := by
          have := hI.2
          rwa [← htl, List.take_length] at this
        walk_at "run"
        refine wpAny_call (make_L F14 N14 (KX.keeps F14.keep) tags_makes tags_init (.inl rfl) (N14.get (.head _)) rfl rfl (by rw [List.size_toArray, sizeLine_eq]; omega) tagsSub.sub fun tx td h15 c15 F15 N15 _ _ => ?_)
        walk_at "run"
        with_reducible rename Fr _ _ _ _ => F16
        with_reducible rename News _ _ _ _ => N16
        obtain ⟨Z3, hZ3⟩ : ∃ Z3, Z3 = ((tx, subO 429 td (List.toArray ys) c15) :: (td, emptyDict) :: (D, lstO ys no13) :: (nw ++ Z2)) := ⟨_, rfl⟩
        rw [← hZ3] at N16
        have hs3 : ∀ q ∈ nw ++ Z2, q ∈ Z3 := fun q hq => by rw [hZ3]; exact .tail _ (.tail _ (.tail _ hq))
        have hT3 : (tx, subO 429 td (List.toArray ys) c15) ∈ Z3 := by rw [hZ3]; exact .head _
        have hd3 : (td, dictOf [] 0) ∈ Z3 := by rw [hZ3]; exact .tail _ (.head _)
        have hI3 : Paired (TagZ (InZ Z3)) rows2 ys := Paired.imp (fun _ _ h => TagZ.mono (fun a o h => hs3 (a, o) h) h) hI2
        have hR3 : RowsZ Z3 rows2 (tups.map fun q => Value.ref q.1) := RowsZ.mono (fun q hq => hs3 q (List.mem_append_right _ hq)) hrw2
        have hlr3 := hs3 _ (List.mem_append_right _ hlr2)
        have hln3 := hs3 _ (List.mem_append_right _ hln2)
        clear hs3 hZ3 hI hI2 off hrw2 hlr2 hln2
        refine wpAny_noRaise (wpAny_mono (show wpAny _ _ _ (fun f s' => f = Flow.next ∧ Stop (∃ h' tk gs m', s' = { s₁ with heap := h', toks := tk, gens := gs } ∧ Fr s₁.heap s₁.heap.objs.size h' m' ∧ News s₁.heap s₁.heap.objs.size h' Z3 ∧ (∀ y ∈ gs, y.bare = true) ∧
          m' (Str.ofString "tags") = some (.ref tx) ∧ m' (Str.ofString "rows") = some (.ref lr2))) (fun _ _ => False) _ from ?forn) (fun f s' hf => ?rest3) fun _ _ e => e)
        case forn =>
          refine wpAny_For ?_ (by intro _; rfl)
          walk_at "run"
          refine add_any (by assumption) (by assumption) (by walk_at "lst") (by walk_at "lst") (by simp) fun Dn hn17 F17 N17 => ?_
          obtain ⟨NL, hNLok, hNL5, N17⟩ : ∃ NL : List Value, (∀ i v, (List.toArray NL)[i]? = some v → ∃ x t, v = .str x t ∧ NmOk x) ∧ (List.toArray NL).size = 5 ∧ News s₁.heap s₁.heap.objs.size hn17 ((Dn, W.listOf (List.toArray NL) 0) :: Z3) :=
            ⟨_, fun i v h => names_ok h, rfl, fun q hq => N17 q (by rcases List.mem_cons.mp hq with rfl | hq; (· exact .head _); exact .tail _ (.tail _ hq))⟩
          refine wpAny_pyIter_list ⟨_, N17.get (.head _), rfl, _, rfl⟩ ?_
          have hLn : s₁.heap.objs.size < hn17.objs.size := F17.ns.lt
          have F18 := F17.push { cls := .type "list_iterator", data := .fields #[.ref Dn, .int 0 0] }
          have N18 : News s₁.heap s₁.heap.objs.size _ _ := N17.grown fun b o e => Heap.get?_push_of_some { cls := .type "list_iterator", data := .fields #[.ref Dn, .int 0 0] } e
          have hitg : s₁.heap.get? hn17.objs.size = none := by
            cases hq : s₁.heap.get? hn17.objs.size with
            | none => rfl
            | some o => exact absurd (Heap.lt_size (F17.keep _ _ hq)) (Nat.lt_irrefl _)
          have hlt17 : ∀ q ∈ (Dn, W.listOf (List.toArray NL) 0) :: Z3, q.1 < hn17.objs.size := fun q hq => Heap.lt_size (N17 q hq).1
          refine codeAny_forLoop (fun n s' => ∃ h' tk gs m' i, s' = { s₁ with heap := h', toks := tk, gens := gs } ∧ Fr s₁.heap s₁.heap.objs.size h' m' ∧ News s₁.heap s₁.heap.objs.size h' ((Dn, W.listOf (List.toArray NL) 0) :: Z3) ∧ h'.IsListIter hn17.objs.size Dn i ∧ (∀ y ∈ gs, y.bare = true) ∧ i ≤ 5 ∧ n = 6 - i ∧
            m' (Str.ofString "tags") = some (.ref tx) ∧ m' (Str.ofString "rows") = some (.ref lr2)) ?turn 6 ?init
          case init =>
            exact ⟨_, _, _, _, 0, rfl, F18, N18, ⟨_, Heap.get?_push_size _ rfl, rfl, rfl⟩, (by rw [hg]; simp), by decide, rfl, rfl, rfl⟩
          case turn =>
            rintro n s' ⟨h20, tk20, gs20, m20, i, rfl, F20, N20, hit20, hb20, hi5, rfl, hm1, hm2⟩
            have hl20 : IsSeq h20 Dn (List.toArray NL) := ⟨_, _, N20.get (.head _), rfl⟩
            by_cases hlt : i < 5
            · have hv : (List.toArray NL)[i]? = some (List.toArray NL)[i] := Array.getElem?_eq_getElem (by rw [hNL5]; exact hlt)
              obtain ⟨nm, tnm, hnv, hnm⟩ := hNLok _ _ hv
              rw [hnv] at hv
              refine nextS_item hit20 hl20 hv fun h21 hit21 hs21 => ?_
              replace hs21 : Heap.SameBut hn17.objs.size h20 h21 := hs21
              have hitL : hn17.objs.size ≠ s₁.heap.objs.size := Nat.ne_of_gt hLn
              refine storeAt rfl rfl (F20.ns.sameBut hs21 (Ne.symm hitL)) fun h22 hn22 hk22 => ?_
              replace hk22 : ∀ b o, b ≠ s₁.heap.objs.size → h21.get? b = some o → h22.get? b = some o := hk22
              replace hn22 : h22.Ns s₁.heap.objs.size (fun y => if y = Str.ofString "name" then some (.str nm tnm) else m20 y) := hn22
              rw [upd_eq hm1] at hn22; rw [upd_eq hm2] at hn22
              dsimp only at hn22
              have up : ∀ b o, b ≠ s₁.heap.objs.size → b ≠ hn17.objs.size → h20.get? b = some o → h22.get? b = some o := fun b o h1 h2 e => hk22 b o h1 (hs21.extBut b o h2 e)
              obtain ⟨oi, hoi, hoir⟩ := id hit21
              have F22 := (⟨hn22, fun b o hb => up b o (fun e => Nat.lt_irrefl _ (e ▸ Heap.lt_size hb)) (fun e => by rw [e, hitg] at hb; cases hb) (F20.keep b o hb), Nat.le_refl _⟩ : Fr s₁.heap s₁.heap.objs.size h22 _)
              have N22 : News s₁.heap s₁.heap.objs.size h22 ((hn17.objs.size, oi) :: (Dn, W.listOf (List.toArray NL) 0) :: Z3) := fun q hq => by
                rcases List.mem_cons.mp hq with rfl | hq
                · exact ⟨hk22 _ _ hitL hoi, hitL, hitg⟩
                · have := N20 q hq
                  exact ⟨up _ _ this.2.1 (Nat.ne_of_lt (hlt17 q hq)) this.1, this.2⟩
              clear hn22 hk22 up hs21 hit21 hit20 hl20 F20 N20 F18 N18 F17 N17 hv hm1 hm2 hoi
              refine wpAny_stop ?_
              walk_at "run"
              obtain ⟨hnl, hkE, hkB⟩ := hnm
              refine wpAny_call (due_call K0 (by assumption) KX (by assumption) T (hrl := by k_mem) (RowsZ.mono (fun q hq => .tail _ (.tail _ hq)) hR3) hok2 hlen2 hnl hkE hkB fun v h23 tk23 Zn F23 N23 hv => ?_)
              clear F22 N22
              dsimp only
              walk_at "run"
              walk_at "stp"
              walk_at "run"
              refine wpAny_call (told_call K0 (by assumption) KX (by assumption) T (hta := by k_mem) (htd := by k_mem) (Paired.imp (fun _ _ h => TagZ.mono (fun a o h => List.mem_append_right _ (.tail _ (.tail _ h))) h) hI3) hok2 hlen2 hnl hkE hkB fun v2 h24 tk24 gs24 Zm F24 N24 hv2 hb24 => ?_)
              replace hb24 : (∀ y ∈ gs20, y.bare = true) → ∀ y ∈ gs24, y.bare = true := hb24
              rw [told_due] at hv2
              (try k_sweep)
              dsimp only
              cases hR : dueR rows2 nm with
              | nf =>
                rw [hR] at hv hv2
                obtain ⟨t1, rfl⟩ := hv
                obtain ⟨t2, rfl⟩ := hv2
                walk_at "run"
                walk_at "stp"
                walk_at "run"
                with_reducible rename News _ _ _ _ => N25
                refine stop_in (P := ∃ m, m < 6 - i ∧ _) ⟨6 - (i + 1), by omega, _, _, gs24, _, i + 1, rfl, by assumption, news_in N25 fun q hq => List.mem_append_right _ (List.mem_append_right _ (.tail _ hq)), ⟨oi, N25.get (by k_mem), hoir⟩, hb24 hb20, by omega, rfl, rfl, rfl⟩
              | bad =>
                rw [hR] at hv hv2
                obtain ⟨t1, rfl⟩ := hv
                obtain ⟨t2, rfl⟩ := hv2
                walk_at "run"
                walk_at "stp"
                walk_at "run"
                with_reducible rename News _ _ _ _ => N25
                refine stop_in (P := ∃ m, m < 6 - i ∧ _) ⟨6 - (i + 1), by omega, _, _, gs24, _, i + 1, rfl, by assumption, news_in N25 fun q hq => List.mem_append_right _ (List.mem_append_right _ (.tail _ hq)), ⟨oi, N25.get (by k_mem), hoir⟩, hb24 hb20, by omega, rfl, rfl, rfl⟩
              | «at» b e =>
                rw [hR] at hv hv2
                obtain ⟨a1, n1, t1, t1', rfl, ha1⟩ := hv
                obtain ⟨a2, n2, t2, t2', rfl, ha2⟩ := hv2
                obtain ⟨hb0, hbe, hel, hinn⟩ := told_inner hR
                walk_at "run"
                refine pair_ne (News.get (by assumption) (List.mem_append_left _ ha2)) (News.get (by assumption) (List.mem_append_right _ (List.mem_append_left _ ha1))) (by ke_room) ?_
                walk_at "run"
                walk_at "stp"
                walk_at "run"
                walk_at "stp"
                walk_at "run"
                walk_at "stp"
                walk_at "run"
                have hyl : ys.length = rows2.length := hI3.length.symm
                refine slice_tags (by assumption) (by assumption) KX (by k_mem) (by k_mem) (by constructor) (by constructor) (by omega) (by with_unfolding_all rfl) (by intro _; with_unfolding_all rfl) fun D30 h30 a30 b30 ea30 eb30 F30 N30 => ?_
                walk_at "run"
                refine make_tags (by assumption) (by assumption) KX (by k_mem) (Nat.le_trans (cutLen _ _ _) (by omega)) fun x31 d31 h31 c31 F31 N31 => ?_
                walk_at "run"
                refine slice_tags (by assumption) (by assumption) KX (by k_mem) (by k_mem) (by constructor) (by constructor) (by omega) (by with_unfolding_all rfl) (by intro _; with_unfolding_all rfl) fun D32 h32 a32 b32 ea32 eb32 F32 N32 => ?_
                walk_at "run"
                refine slice_tags (by assumption) (by assumption) KX (by k_mem) (by k_mem) (by constructor) (by constructor) (by omega) (by with_unfolding_all rfl) (by intro _; with_unfolding_all rfl) fun D33 h33 a33 b33 ea33 eb33 F33 N33 => ?_
                walk_at "run"
                refine add_any (by assumption) (by assumption) (by walk_at "lst") (by walk_at "lst") (by (have c1 := cutLen ys a32 b32); (have c2 := cutLen ys a33 b33); omega) fun D34 h34 F34 N34 => ?_
                walk_at "run"
                refine make_tags (by assumption) (by assumption) KX (by k_mem) (by (have c1 := cutLen ys a32 b32); (have c2 := cutLen ys a33 b33); (rw [List.length_append]); omega) fun x35 d35 h35 c35 F35 N35 => ?_
                walk_at "run"
                walk_at "stp"
                walk_at "run"
                with_reducible rename News _ _ _ _ => N36
                have hI36 := mono_inT N36 hI3 fun q hq => by k_mem
                refine wpAny_call (told_call K0 (by assumption) KX (by assumption) T (hta := by k_mem) (htd := by k_mem) (Paired.take b30 (Paired.drop a30 hI36)) (okPart hok2 a30 b30) (Nat.le_trans (cutLen _ _ _) hlen2) hnl hkE hkB fun v3 h37 tk37 gs37 Zp F37 N37 hv3 hb37 => ?_)
                replace hb37 : (∀ y ∈ gs24, y.bare = true) → ∀ y ∈ gs37, y.bare = true := hb37
                (try k_sweep)
                dsimp only
                have hea : a30 = b.toNat := by rw [ea30, hyl]; exact kms_lo_nat hb0 (by omega)
                have heb : b30 = e.toNat - b.toNat := by rw [eb30, hyl, kms_lo_nat hb0 (by omega), kms_hi_nat (by omega) hel]
                rw [hea, heb, hinn] at hv3
                obtain ⟨a3, n3, t3, t3', rfl, ha3⟩ := hv3
                walk_at "run"
                walk_at "stp"
                walk_at "run"
                refine pair_ne (News.get (by assumption) (.tail _ (List.mem_append_left _ ha3))) (News.get (by assumption) (.head _)) (by ke_room) ?_
                walk_at "run"
                with_reducible rename News _ _ _ _ => N38
                have hI38 := mono_inT N38 hI3 fun q hq => by k_mem
                have hl38 : ((rows2.drop a32).take b32 ++ (rows2.drop a33).take b33).length ≤ rows2.length := by
                  rw [ea32, eb32, ea33, eb33, hyl, kms_hi_nat hb0 (by omega), kms_lo_nat (by omega) hel]
                  simp only [kms_lo, kms_hi, List.length_append, List.length_take, List.length_drop]
                  omega
                have hok38 := okApp (okPart hok2 a32 b32) (okPart hok2 a33 b33)
                refine wpAny_call (told_call K0 (by assumption) KX (by assumption) T (hta := by k_mem) (htd := by k_mem) (Paired.append (Paired.take b32 (Paired.drop a32 hI38)) (Paired.take b33 (Paired.drop a33 hI38))) hok38 (Nat.le_trans hl38 hlen2) hnl hkE hkB fun v4 h39 tk39 gs39 Zr F39 N39 hv4 hb39 => ?_)
                replace hb39 : (∀ y ∈ gs37, y.bare = true) → ∀ y ∈ gs39, y.bare = true := hb39
                rw [told_due] at hv4
                (try k_sweep)
                dsimp only
                walk_at "run"
                have hvlm : (tups.map fun q => Value.ref q.1).length = rows2.length := hvl2.symm
                refine slice_any (by assumption) (by assumption) (by walk_at "lst") (by constructor) (by constructor) (by omega) (by with_unfolding_all rfl) (by intro _; with_unfolding_all rfl) fun D40 h40 a40 b40 ea40 eb40 F40 N40 => ?_
                rw [hvlm, ← hyl] at ea40 eb40
                obtain rfl : a40 = a32 := by rw [ea40, ea32]
                obtain rfl : b40 = b32 := by rw [eb40, eb32]
                walk_at "run"
                refine slice_any (by assumption) (by assumption) (by walk_at "lst") (by constructor) (by constructor) (by omega) (by with_unfolding_all rfl) (by intro _; with_unfolding_all rfl) fun D41 h41 a41 b41 ea41 eb41 F41 N41 => ?_
                rw [hvlm, ← hyl] at ea41 eb41
                obtain rfl : a41 = a33 := by rw [ea41, ea33]
                obtain rfl : b41 = b33 := by rw [eb41, eb33]
                walk_at "run"
                refine add_any (by assumption) (by assumption) (by walk_at "lst") (by walk_at "lst") (by (have c1 := cutLen (tups.map fun q => Value.ref q.1) a40 b40); (have c2 := cutLen (tups.map fun q => Value.ref q.1) a41 b41); omega) fun D42 h42 F42 N42 => ?_
                walk_at "run"
                with_reducible rename News _ _ _ _ => N43
                have hR43 := mono_in N43 hR3 fun q hq => by k_mem
                refine wpAny_call (due_call K0 (by assumption) KX (by assumption) T (hrl := by k_mem) (RowsZ.app (RowsZ.part hR43 a40 b40) (RowsZ.part hR43 a41 b41)) hok38 (Nat.le_trans hl38 hlen2) hnl hkE hkB fun v5 h44 tk44 Zq F44 N44 hv5 => ?_)
                (try k_sweep)
                dsimp only
                cases hRr : dueR ((rows2.drop a40).take b40 ++ (rows2.drop a41).take b41) nm with
                | nf =>
                  rw [hRr] at hv4 hv5
                  obtain ⟨t4, rfl⟩ := hv4
                  obtain ⟨t5, rfl⟩ := hv5
                  walk_at "run"
                  with_reducible rename News _ _ _ _ => N45
                  refine stop_in (P := ∃ m, m < 6 - i ∧ _) ⟨6 - (i + 1), by omega, _, _, gs39, _, i + 1, rfl, by assumption, news_in N45 fun q hq => ?n1, ⟨oi, N45.get (by k_mem), hoir⟩, hb39 (hb37 (hb24 hb20)), by omega, rfl, rfl, rfl⟩
                  case n1 => k_mem
                | bad =>
                  rw [hRr] at hv4 hv5
                  obtain ⟨t4, rfl⟩ := hv4
                  obtain ⟨t5, rfl⟩ := hv5
                  walk_at "run"
                  with_reducible rename News _ _ _ _ => N45
                  refine stop_in (P := ∃ m, m < 6 - i ∧ _) ⟨6 - (i + 1), by omega, _, _, gs39, _, i + 1, rfl, by assumption, news_in N45 fun q hq => ?n1, ⟨oi, N45.get (by k_mem), hoir⟩, hb39 (hb37 (hb24 hb20)), by omega, rfl, rfl, rfl⟩
                  case n1 => k_mem
                | «at» b2 e2 =>
                  rw [hRr] at hv4 hv5
                  obtain ⟨a4, n4, t4, t4', rfl, ha4⟩ := hv4
                  obtain ⟨a5, n5, t5, t5', rfl, ha5⟩ := hv5
                  walk_at "run"
                  refine pair_ne (News.get (by assumption) (by repeat (first | exact ha4 | exact List.mem_append_left _ ha4 | refine List.Mem.tail _ ?_ | refine List.mem_append_right _ ?_))) (News.get (by assumption) (by repeat (first | exact ha5 | exact List.mem_append_left _ ha5 | refine List.Mem.tail _ ?_ | refine List.mem_append_right _ ?_))) (by ke_room) ?_
                  walk_at "run"
                  with_reducible rename News _ _ _ _ => N45
                  refine stop_in (P := ∃ m, m < 6 - i ∧ _) ⟨6 - (i + 1), by omega, _, _, gs39, _, i + 1, rfl, by assumption, news_in N45 fun q hq => ?n1, ⟨oi, N45.get (by k_mem), hoir⟩, hb39 (hb37 (hb24 hb20)), by omega, rfl, rfl, rfl⟩
                  case n1 => k_mem
            · obtain rfl : i = 5 := by omega
              have hitL : hn17.objs.size ≠ s₁.heap.objs.size := Nat.ne_of_gt hLn
              refine nextS_end rfl hit20 hl20 (by simp [hNL5]) fun h21 hk21 => ?_
              replace hk21 : Heap.ExtBut hn17.objs.size h20 h21 := hk21
              refine wpAny_execs_nil ⟨rfl, stop_in ⟨h21, _, _, m20, rfl, ⟨F20.ns.at' fun o e => hk21 _ _ (Ne.symm hitL) e, fun b o hb => hk21 _ _ (fun e => by rw [e, hitg] at hb; cases hb) (F20.keep b o hb), Nat.le_refl _⟩, fun q hq => ?_, hb20, hm1, hm2⟩⟩
              have := N20 q (.tail _ hq)
              exact ⟨hk21 _ _ (Nat.ne_of_lt (hlt17 q (.tail _ hq))) this.1, this.2⟩
        case rest3 =>
          obtain ⟨rfl, h40, tk40, gs40, m40, rfl, F40, N40, hb40, hm1, hm2⟩ := hf
          rw [upd_eq hm1] at F40; rw [upd_eq hm2] at F40
          dsimp only at F40
          clear hm1 hm2 F16 N16
          walk_at "run"
          have hyl : ys.length = rows2.length := hI3.length.symm
          rw [eval_ListComp]
          refine tags_comp (K := hd.heap_39 w.params) (C0 := 429) (fun i zs nw => zs.length = i ∧ RowsZ (nw ++ Z3) (rows2.take i) zs) ⟨rfl, by rw [List.take_zero]; exact Paired.nil⟩ (fun i zs nw h => h.1) rfl (by assumption) (by assumption) KX tagsSub hT3 hd3 (by rw [sizeLine_eq]; omega) (by with_unfolding_all rfl) (by decide) rfl (by decide) rfl ?itr2 ?ele2 ?pst2
          case itr2 =>
            intro Q' hQ'
            walk_at "run"
            exact hQ'
          case ele2 =>
            intro C D it i v zs oC own nw s₃ m₃ E' hv hNo h1 hI F₃ N₃ hb
            obtain ⟨r, hr, hrz⟩ := pairedGet hI3 hv
            obtain ⟨x, d, CC, t, u, rfl, hx, hdx, hu, hC⟩ := hrz
            have hrok := hok2 r (List.mem_of_getElem? hr)
            clear F40 N40
            refine ev_pairL (fun v1 v2 => v1 = .int r.code t ∧ v2 = u) (by exact F₃) (by exact N₃) (by rfl) (by rfl) ?ev fun D50 h50 tk50 v1 v2 hG F50 N50 l50 => ?_
            case ev =>
              walk_at "rua"
              refine attr_code (hC.imp And.left And.left) (of_decide_eq_true rfl) F₃ KX T ⟨N₃.get (List.mem_cons_of_mem _ (List.mem_append_right _ (List.mem_append_right _ hx))), rfl, rfl, N₃.get (List.mem_cons_of_mem _ (List.mem_append_right _ (List.mem_append_right _ hdx)))⟩ rfl fun h51 tk51 k51 => ?_
              replace k51 : ∀ b o, s₃.heap.get? b = some o → h51.get? b = some o := k51
              have F51 := Fr.after F₃ k51
              have N51 := News.grown N₃ k51
              clear F₃ N₃ k51
              walk_at "rua"
              refine attr_value ?_ (of_decide_eq_true rfl) F51 KX T ⟨N51.get (List.mem_cons_of_mem _ (List.mem_append_right _ (List.mem_append_right _ hx))), rfl, rfl, N51.get (List.mem_cons_of_mem _ (List.mem_append_right _ (List.mem_append_right _ hdx)))⟩ hu.handed fun h52 tk52 k52 => ?_
              · rcases hC with ⟨h, _⟩ | ⟨h, h'⟩
                · exact .inl h
                · refine .inr ⟨h, ?_⟩
                  obtain ⟨j, hj⟩ := hrok.vert h'
                  rw [hj] at hu
                  obtain ⟨a, n, t1, t2, t3, e, ha⟩ := hu
                  exact ⟨a, _, e, _, N51.get (List.mem_cons_of_mem _ (List.mem_append_right _ (List.mem_append_right _ ha))), rfl, n, rfl⟩
              replace k52 : ∀ b o, h51.get? b = some o → h52.get? b = some o := k52
              exact stop_in ⟨h52, tk52, rfl, Fr.after F51 k52, News.grown N51 k52, rfl, rfl⟩
            obtain ⟨rfl, rfl⟩ := hG
            exact row_done F50 N50 l50 hb hI hr hu
          case pst2 =>
            intro D C h60 tk60 m60 zs nw no60 F60 N60 hI hn hCg hCL hCD off
            refine post_none F60 N60 hn hCg hCL (fun q hq => ?_) fun h61 F61 N61 => ?_
            · rcases List.mem_cons.mp hq with rfl | hq
              · exact Ne.symm hCD
              · exact (off q hq).1
            clear F60 N60 hn F40 N40
            dsimp only
            have hI2 : RowsZ (nw ++ Z3) rows2 zs := by
              have := hI.2
              rwa [hyl, List.take_length] at this
            walk_at "run"
            refine rows_same (Z := (D, lstO zs no60) :: (nw ++ Z3)) (fun q hq => N61.get hq) (.head _) (.tail _ (List.mem_append_right _ hlr3)) (RowsZ.mono (fun q hq => .tail _ hq) hI2) (RowsZ.mono (fun q hq => .tail _ (List.mem_append_right _ hq)) hR3) hok2 (by ke_room) ?_
            walk_at "run"
            exact ⟨.inl ⟨_, _, [], rfl, raisesW_false (by wrow_none_raised), ReadsW.bool true, (by wrow_post), fun _ => ⟨List.nodup_nil, fun _ hm => nomatch hm⟩⟩, OldK.of_keep F61.keep, rfl, hb40⟩
end Mine

open PySem PySem.W PyProof.Rows
theorem PySem.Challenge.cw_vz0017_01_holds : PySem.Challenge.rw_vz0017_01.Holds :=
  Mine.law_main
