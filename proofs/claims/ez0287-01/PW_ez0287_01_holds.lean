import PyProof.Rows.All
import Wide.All
import OpenK.AllK
import PyProof.ZipIter
import KE.RegLcTurns
import KE.KIntText
import KE.RegKIsNot
import KE.RegKDeep
import Wide.FinOn
import PySem.Challenge.RW_ez0287_01
set_option Elab.async false
set_option rowWalk.seconds 0
-- Fo
section
open PySem PySem.W PyProof.Rows PySem.Calls PySem.Spec
set_option linter.all false
namespace Mine
section
variable {prog : Program} {w : World} {A : Around} {E : Value → Shared → Prop} {s : Shared} {env : Env} {target : Expr} {body : List Stmt} {Q : Flow → Shared → Prop}
/-- how a turn may end -/
def TurnF (P : Shared → Prop) (Q : Flow → Shared → Prop) (f : Flow) (s : Shared) : Prop := ((f = .next ∨ f = .cont) ∧ P s) ∨ (f = .brk ∧ Q .next s) ∨ ∃ v, f = .ret v ∧ Q (.ret v) s
theorem TurnF.next {P : Shared → Prop} {Q : Flow → Shared → Prop} {s : Shared} (h : P s) : TurnF P Q .next s := .inl ⟨.inl rfl, h⟩
theorem TurnF.cont {P : Shared → Prop} {Q : Flow → Shared → Prop} {s : Shared} (h : P s) : TurnF P Q .cont s := .inl ⟨.inr rfl, h⟩
theorem TurnF.brk {P : Shared → Prop} {Q : Flow → Shared → Prop} {s : Shared} (h : Q .next s) : TurnF P Q .brk s := .inr (.inl ⟨rfl, h⟩)
/-- a loop over a list by an invariant -/
def ForL (prog : Program) (w : World) (A : Around) (env : Env) (target : Expr) (body : List Stmt) (Q : Flow → Shared → Prop) (E : Value → Shared → Prop) (xv : Value) (s₁ : Shared) : Prop :=
  ∃ (X : Addr) (items : Array Value) (Inv : Addr → Nat → Shared → Prop), xv = .ref X ∧ A.handled = none ∧ s₁.heap.IsList X items ∧
    (∀ h', s₁.heap.StaysIn h' → h'.IsListIter s₁.heap.objs.size X 0 → Inv s₁.heap.objs.size 0 { s₁ with heap := h' }) ∧
    (∀ I i s, Inv I i s → s.heap.IsListIter I X i ∧ s.heap.IsList X items ∧ i ≤ items.size) ∧
    (∀ I i s x, items[i]? = some x → Inv I i s → ∀ h', h'.IsListIter I X (i + 1) → Heap.SameBut I s.heap h' →
      wpAny (model prog w) A (assign target env x) (fun _ s₂ => wpAny (model prog w) A (execs body env) (TurnF (Inv I (i + 1)) Q) E s₂) E { s with heap := h' }) ∧
    ∀ I s h', Inv I items.size s → Heap.ExtBut I s.heap h' → Q .next { s with heap := h' }
theorem for_list {iter : Expr} {pos : Pos} (h : wpAny (model prog w) A (eval iter env) (ForL prog w A env target body Q E) E s)
    (hs : ∀ x, foldedSetIterable iter env x = pure x := by intro _; rfl)
    (hE : PassesOwn (model prog w) A env E := by passes_own) : wpAny (model prog w) A (exec (.For target iter body [] pos) env) Q E s := by
  refine wpAny_For (wpAny_mono h (fun xv s₁ h₁ => ?_) fun _ _ e => e) hs
  obtain ⟨X, items, Inv, rfl, hh, hl, h0, hI, turn, fin⟩ := h₁
  refine wpAny_pyIter_list hl ?_
  refine codeAny_forLoop_any (fun k s' => ∃ i, Inv s₁.heap.objs.size i s' ∧ k + i = items.size + 1) ?_ (items.size + 1) ⟨0, h0 _ (fun _ _ e => Heap.get?_push_of_some _ e) ⟨_, Heap.get?_push_size _ rfl, rfl, rfl⟩, by omega⟩
  rintro k s' ⟨i, inv, hk⟩
  obtain ⟨hit, hil, hle⟩ := hI _ _ _ inv
  cases hx : items[i]? with
  | none =>
    have hi : i = items.size := by
      have := Array.getElem?_eq_none_iff.mp hx
      omega
    subst hi
    refine wpAny_pyNext_list_end hh hit hil hx fun h₁ hk₁ => wpAny_execs_nil ?_
    exact fin _ _ _ inv hk₁
  | some x =>
    refine wpAny_pyNext_list_item hit hil hx fun h₁ hit₁ hk₁ => letGo_listiter hit₁ ?_
    refine wpAny_mono (turn _ _ _ _ hx inv h₁ hit₁ hk₁) (fun _ s₂ h₂ => wpAny_passesOwn hE (wpAny_mono h₂ (fun f s₃ h₃ => ?_) fun _ _ e => e)) hE
    have hlt := (Array.getElem?_eq_some_iff.mp hx).1
    rcases h₃ with ⟨rfl | rfl, h₃⟩ | ⟨rfl, h₃⟩ | ⟨v, rfl, h₃⟩
    · exact ⟨k - 1, by omega, i + 1, h₃, by omega⟩
    · exact ⟨k - 1, by omega, i + 1, h₃, by omega⟩
    · exact h₃
    · exact h₃
end
end Mine
end
-- Hd
section
local macro_rules | `(tactic| walk_at "mine no such step") => `(tactic| skip)
local macro_rules | `(tactic| walk_at "mine no such step") => `(tactic| skip)
local macro_rules | `(tactic| walk_at "mine no such step") => `(tactic| skip)
local macro_rules | `(tactic| walk_at "mine no such step") => `(tactic| skip)
local macro_rules | `(tactic| walk_at "mine no such step") => `(tactic| skip)
local macro_rules | `(tactic| walk_at "mine no such step") => `(tactic| skip)
local macro_rules | `(tactic| walk_at "mine no such step") => `(tactic| skip)
local macro_rules | `(tactic| walk_at "mine no such step") => `(tactic| skip)
local macro_rules | `(tactic| walk_at "mine no such step") => `(tactic| skip)
local macro_rules | `(tactic| walk_at "mine no such step") => `(tactic| skip)
local macro_rules | `(tactic| walk_at "mine no such step") => `(tactic| skip)
local macro_rules | `(tactic| walk_at "mine no such step") => `(tactic| skip)
local macro_rules | `(tactic| walk_at "mine no such step") => `(tactic| skip)
local macro_rules | `(tactic| walk_at "mine no such step") => `(tactic| skip)
local macro_rules | `(tactic| walk_at "mine no such step") => `(tactic| skip)
local macro_rules | `(tactic| walk_at "mine no such step") => `(tactic| skip)
local macro_rules | `(tactic| walk_at "mine no such step") => `(tactic| skip)
local macro_rules | `(tactic| walk_at "mine no such step") => `(tactic| skip)
local macro_rules | `(tactic| walk_at "mine no such step") => `(tactic| skip)
local macro_rules | `(tactic| walk_at "mine no such step") => `(tactic| skip)
local macro_rules | `(tactic| walk_at "mine no such step") => `(tactic| skip)
local macro_rules | `(tactic| walk_at "mine no such step") => `(tactic| skip)
local macro_rules | `(tactic| walk_at "mine no such step") => `(tactic| skip)
local macro_rules | `(tactic| walk_at "mine no such step") => `(tactic| skip)
local macro_rules | `(tactic| walk_at "mine no such step") => `(tactic| skip)
local macro_rules | `(tactic| walk_at "mine no such step") => `(tactic| skip)
local macro_rules | `(tactic| walk_at "mine no such step") => `(tactic| skip)
local macro_rules | `(tactic| walk_at "mine no such step") => `(tactic| skip)
local macro_rules | `(tactic| walk_at "mine no such step") => `(tactic| skip)
local macro_rules | `(tactic| walk_at "mine no such step") => `(tactic| skip)
local macro_rules | `(tactic| walk_at "mine no such step") => `(tactic| skip)
local macro_rules | `(tactic| walk_at "mine no such step") => `(tactic| skip)
local macro_rules | `(tactic| walk_at "mine no such step") => `(tactic| skip)
local macro_rules | `(tactic| walk_at "mine no such step") => `(tactic| skip)
local macro_rules | `(tactic| walk_at "mine no such step") => `(tactic| skip)
local macro_rules | `(tactic| walk_at "mine no such step") => `(tactic| skip)
local macro_rules | `(tactic| walk_at "mine no such step") => `(tactic| skip)
local macro_rules | `(tactic| walk_at "mine no such step") => `(tactic| skip)
local macro_rules | `(tactic| walk_at "mine no such step") => `(tactic| skip)
local macro_rules | `(tactic| walk_at "mine no such step") => `(tactic| skip)
open PySem PySem.W PyProof.Rows
namespace Mine
set_option maxRecDepth 100000 in
set_option maxHeartbeats 8000000 in
open_top hd for PySem.Challenge.rw_ez0287_01
end Mine
end
-- Ck
section
open PySem PySem.W PyProof.Rows
set_option maxRecDepth 100000
namespace Mine
open PySem Builtin

namespace FM
theorem owner_map : Manifest.owners.lookup (String.ofList ['p', 'a', 'm'].reverse) = some Manifest.sig_map := by kernel_rfl
theorem slot_map_init : Slot "map" "__init__" "object.__init__" :=
  .of (owner := "object") (n := "__init__") (by rw [typeLookup_type, builtinLookup_eq_fast]; kernel_rfl) (by decide +kernel) (by decide +kernel) (by decide +kernel)
    (by first | exact .inl (by decide +kernel) | exact .inr (by decide +kernel)) (by rw [isSubtype_type]; kernel_rfl)
theorem slot_map_iter : Slot "map" "__iter__" "map.__iter__" :=
  .of (owner := "map") (n := "__iter__") (by rw [typeLookup_type, builtinLookup_eq_fast]; kernel_rfl) (by decide +kernel) (by decide +kernel) (by decide +kernel)
    (by first | exact .inl (by decide +kernel) | exact .inr (by decide +kernel)) (by rw [isSubtype_type]; kernel_rfl)
theorem slot_map_next : Slot "map" "__next__" "map.__next__" :=
  .of (owner := "map") (n := "__next__") (by rw [typeLookup_type, builtinLookup_eq_fast]; kernel_rfl) (by decide +kernel) (by decide +kernel) (by decide +kernel)
    (by first | exact .inl (by decide +kernel) | exact .inr (by decide +kernel)) (by rw [isSubtype_type]; kernel_rfl)
theorem entry_map_iter : entryFor table "map.__iter__" = some Builtin.«dict_keyiterator.__iter__» :=
  entryFor_alias (id' := "dict_keyiterator.__iter__") (by kernel_rfl) (by first | rfl | decide +kernel | (unfold String.splitOn; simp +decide [String.splitOnAux])) (by decide +kernel) (by kernel_rfl)
theorem entry_map_next : entryFor table "map.__next__" = some Builtin.«map.__next__» := entryFor_of_tree (by kernel_rfl)
theorem args_map_iter (a : Value) : argsOk "map.__iter__" ⟨[a], []⟩ := by unfold argsOk; kernel_rfl
theorem args_map_next (a : Value) : argsOk "map.__next__" ⟨[a], []⟩ := by unfold argsOk; kernel_rfl
theorem mro_map : mroOf (.type "map") = pure [.type "map", .type "object"] := by rw [mroOf_type]; kernel_rfl
theorem lookup_map_new : typeLookup (.type "map") "__new__" = pure (some (.builtin "map.__new__")) := by rw [typeLookup_type, builtinLookup_eq_fast]; kernel_rfl
theorem called_map : TypeCalled "map" "map.__new__" "object.__init__" :=
  ⟨by decide +kernel, by decide +kernel, ⟨_, _, mro_map⟩, madeBy_type mro_map lookup_map_new (by decide +kernel), by decide +kernel, by rw [isSubtype_type]; kernel_rfl, slot_map_init⟩
theorem typeCall_map_2 (a b : Value) : checkTypeCall "map" ⟨[a, b], []⟩ = pure () := by kernel_rfl
theorem newCall_map_2 (a b : Value) : checkBuiltinCall "map.__new__" ⟨[.type "map", a, b], []⟩ = pure () := by kernel_rfl
theorem entry_map_new : entryFor table "map.__new__" = some Builtin.«map.__new__» := entryFor_of_tree (by kernel_rfl)
end FM
theorem sub_map : isSubtype (.type "map") (.type "map") = pure true := by rw [isSubtype_type]; kernel_rfl


abbrev strItObj (x : Str) (t : Tok) (i : Nat) : Obj := { cls := .type (strIterType x), data := .fields #[.str x t, .int i 0] }
abbrev mapTupObj (it : Addr) : Obj := { cls := .type "tuple", data := .seq #[.ref it] }
abbrev mapObj (tp : Addr) : Obj := { cls := .type "map", data := .fields #[.ref tp, .builtin "ord"] }

set_option maxHeartbeats 1000000 in
theorem meets_map_new (x : Str) (t : Tok) :
    Meets (Builtin.«map.__new__» ⟨[.type "map", .builtin "ord", .str x t], []⟩) (fun _ R s =>
      R (.ok (.ret (.ref (s.heap.objs.size + 2))))
        { s with heap := ((s.heap.push (strItObj x t 0)).push (mapTupObj s.heap.objs.size)).push (mapObj (s.heap.objs.size + 1)) }) :=
  .of_wp fun prog w A R s h => by
    obtain ⟨hp, g, d, tk, os⟩ := s
    have hsub := sub_map
    wp_walk using wpAny_pyIter_strU
    refine ⟨_, rfl, ?_⟩
    simp only [Heap.size_push]; exact h
end Mine
end
-- Ck2
section
local macro_rules | `(tactic| walk_at "mine no such step") => `(tactic| skip)
local macro_rules | `(tactic| walk_at "mine no such step") => `(tactic| skip)
local macro_rules | `(tactic| walk_at "mine no such step") => `(tactic| skip)
local macro_rules | `(tactic| walk_at "mine no such step") => `(tactic| skip)
local macro_rules | `(tactic| walk_at "mine no such step") => `(tactic| skip)
local macro_rules | `(tactic| walk_at "mine no such step") => `(tactic| skip)
local macro_rules | `(tactic| walk_at "mine no such step") => `(tactic| skip)
local macro_rules | `(tactic| walk_at "mine no such step") => `(tactic| skip)
local macro_rules | `(tactic| walk_at "mine no such step") => `(tactic| skip)
local macro_rules | `(tactic| walk_at "mine no such step") => `(tactic| skip)
local macro_rules | `(tactic| walk_at "mine no such step") => `(tactic| skip)
local macro_rules | `(tactic| walk_at "mine no such step") => `(tactic| skip)
local macro_rules | `(tactic| walk_at "mine no such step") => `(tactic| skip)
local macro_rules | `(tactic| walk_at "mine no such step") => `(tactic| skip)
local macro_rules | `(tactic| walk_at "mine no such step") => `(tactic| skip)
local macro_rules | `(tactic| walk_at "mine no such step") => `(tactic| skip)
local macro_rules | `(tactic| walk_at "mine no such step") => `(tactic| skip)
local macro_rules | `(tactic| walk_at "mine no such step") => `(tactic| skip)
local macro_rules | `(tactic| walk_at "mine no such step") => `(tactic| skip)
local macro_rules | `(tactic| walk_at "mine no such step") => `(tactic| skip)
local macro_rules | `(tactic| walk_at "mine no such step") => `(tactic| skip)
local macro_rules | `(tactic| walk_at "mine no such step") => `(tactic| skip)
local macro_rules | `(tactic| walk_at "mine no such step") => `(tactic| skip)
local macro_rules | `(tactic| walk_at "mine no such step") => `(tactic| skip)
local macro_rules | `(tactic| walk_at "mine no such step") => `(tactic| skip)
local macro_rules | `(tactic| walk_at "mine no such step") => `(tactic| skip)
local macro_rules | `(tactic| walk_at "mine no such step") => `(tactic| skip)
local macro_rules | `(tactic| walk_at "mine no such step") => `(tactic| skip)
local macro_rules | `(tactic| walk_at "mine no such step") => `(tactic| skip)
local macro_rules | `(tactic| walk_at "mine no such step") => `(tactic| skip)
local macro_rules | `(tactic| walk_at "mine no such step") => `(tactic| skip)
local macro_rules | `(tactic| walk_at "mine no such step") => `(tactic| skip)
local macro_rules | `(tactic| walk_at "mine no such step") => `(tactic| skip)
local macro_rules | `(tactic| walk_at "mine no such step") => `(tactic| skip)
local macro_rules | `(tactic| walk_at "mine no such step") => `(tactic| skip)
local macro_rules | `(tactic| walk_at "mine no such step") => `(tactic| skip)
local macro_rules | `(tactic| walk_at "mine no such step") => `(tactic| skip)
local macro_rules | `(tactic| walk_at "mine no such step") => `(tactic| skip)
local macro_rules | `(tactic| walk_at "mine no such step") => `(tactic| skip)
local macro_rules | `(tactic| walk_at "mine no such step") => `(tactic| skip)
open PySem PySem.W PyProof.Rows
set_option maxRecDepth 100000
namespace Mine
open PySem Builtin
section
variable {prog : Program} {w : World} {A : Around} {E : Value → Shared → Prop} {s : Shared}

theorem call_map_str {x : Str} {t : Tok} {Q : Value → Shared → Prop}
    (h : Q (.ref (s.heap.objs.size + 2)) { s with heap := ((s.heap.push (strItObj x t 0)).push (mapTupObj s.heap.objs.size)).push (mapObj (s.heap.objs.size + 1)) }) :
    wpAny (model prog w) A (call (.type "map") [.builtin "ord", .str x t]) Q E s := by
  refine callType_new FM.called_map (by decide) (FM.typeCall_map_2 _ _) (FM.newCall_map_2 _ _) (fun obj => F.args_object_init_3 obj _ _) FM.entry_map_new (meets_map_new x t) ?_
  have := Heap.get?_push_size ((s.heap.push (strItObj x t 0)).push (mapTupObj s.heap.objs.size)) (o := mapObj (s.heap.objs.size + 1)) rfl
  simp only [Heap.size_push] at this
  exact ⟨⟨mapObj (s.heap.objs.size + 1), this, rfl⟩, h⟩

theorem nextOf_ascii_item {it : Addr} {x : Str} {t : Tok} {i c : Nat} {Q : Value → Shared → Prop} (hit : s.heap.get? it = some { cls := .type "str_ascii_iterator", data := .fields #[.str x t, .int i 0] }) (hx : x.cps[i]? = some c)
    (hQ : ∀ h', h'.get? it = some { cls := .type "str_ascii_iterator", data := .fields #[.str x t, .int (i + 1 : Nat) 0] } → Heap.SameBut it s.heap h' → Q (.str ⟨#[c]⟩ s.toks) { s with heap := h', toks := s.toks + 1 }) :
    wpAny (model prog w) A (SmallTypes.nextOf (.ref it)) Q E s := by
  unfold SmallTypes.nextOf
  refine wpAny_bind (wpAny_callSpecial?_slot (name := Str.ofString "__next__") ⟨_, hit, rfl⟩ F.slot_str_ascii_iterator_next
    (wpAny_call_entry F.slot_str_ascii_iterator_next ⟨_, hit, rfl⟩ F.entry_str_ascii_iterator_next ?_ (F.args_str_ascii_iterator_next_1 _)))
  show wpAny _ _ (field (.ref it) 0 >>= _) _ _ s
  refine wpAny_bind (wpAny_field hit rfl (x := .str x t) rfl ?_)
  show wpAny _ _ (field (.ref it) 1 >>= _) _ _ s
  refine wpAny_bind (wpAny_field hit rfl (x := .int i 0) rfl ?_)
  simp only [Int.toNat_natCast, hx]
  refine wpAny_bind (wpAny_setField hit rfl (by simp) (wpAny_bind (wpAny_mkStr (wpAny_pure ⟨_, rfl, wpAny_pure (hQ _ ?_ (Heap.SameBut.update ..))⟩) (by show 1 ≤ sizeLine; decide))))
  rw [Heap.get?_update_self _ hit rfl]
  simp [Obj.mapFields, rawInt]

theorem nextOf_ascii_end {it : Addr} {x : Str} {t : Tok} {i : Nat} {Q : Value → Shared → Prop} (hh : A.handled = none)
    (hit : s.heap.get? it = some { cls := .type "str_ascii_iterator", data := .fields #[.str x t, .int i 0] }) (hx : x.cps[i]? = none)
    (hE : ∀ h' e, Heap.ExtBut it s.heap h' → (∃ o, h'.get? e = some o ∧ o.cls = .type "StopIteration") → E (.ref e) { s with heap := h' }) :
    wpAny (model prog w) A (SmallTypes.nextOf (.ref it)) Q E s := by
  unfold SmallTypes.nextOf
  refine wpAny_bind (wpAny_callSpecial?_slot (name := Str.ofString "__next__") ⟨_, hit, rfl⟩ F.slot_str_ascii_iterator_next
    (wpAny_call_entry F.slot_str_ascii_iterator_next ⟨_, hit, rfl⟩ F.entry_str_ascii_iterator_next ?_ (F.args_str_ascii_iterator_next_1 _)))
  show wpAny _ _ (field (.ref it) 0 >>= _) _ _ s
  refine wpAny_bind (wpAny_field hit rfl (x := .str x t) rfl ?_)
  show wpAny _ _ (field (.ref it) 1 >>= _) _ _ s
  refine wpAny_bind (wpAny_field hit rfl (x := .int i 0) rfl ?_)
  simp only [Int.toNat_natCast, hx]
  refine wpAny_bind (wpAny_rule (wpAny_bind (wpAny_setField hit rfl (by simp) (wpAny_bind (wpAny_letGo ?_)))))
  show wpAny _ _ (newExc (.type "StopIteration") [] >>= _) _ _ _
  refine wpAny_bind ?_
  simp only [newExc, newTuple]
  refine wpAny_bind (wpAny_newObj_type ?_ (by size_fits))
  refine wpAny_bind (m := firstArgMember _ _) (wpAny_of_eq (a := Value.none) (by first | rfl | (simp only [firstArgMember]; rfl)) ?_)
  refine wpAny_newObj_type ?_ (by size_fits)
  simp only [raiseNew]
  refine wpAny_bind (wpAny_handled ?_)
  first | rw [show A.in1.handled = none from hh] | rw [hh]
  refine wpAny_bind (wpAny_pure (wpAny_throw ?_))
  exact hE _ _ (((Heap.SameBut.update ..).extBut.push _).push _) ⟨_, Heap.get?_push_size _ rfl, rfl⟩

theorem pyIter_map {a tp : Addr} {Q : Value → Shared → Prop} (hm : s.heap.get? a = some (mapObj tp)) (h : Q (.ref a) s) :
    wpAny (model prog w) A (pyIter (.ref a)) Q E s := by
  refine wpAny_pyIter_slot ⟨_, hm, rfl⟩ FM.slot_map_iter (wpAny_call_entry FM.slot_map_iter ⟨_, hm, rfl⟩ FM.entry_map_iter ?_ (FM.args_map_iter _))
  show wpAny _ _ (ret (.ref a)) _ _ s
  exact wpAny_pure ⟨_, rfl, "map", _, ⟨_, hm, rfl⟩, FM.slot_map_next.lookup, h⟩

theorem pyNext_map_item {a tp it : Addr} {x : Str} {t : Tok} {i c : Nat} {Q : Option Value → Shared → Prop}
    (hm : s.heap.get? a = some (mapObj tp)) (ht : s.heap.get? tp = some (mapTupObj it))
    (hit : s.heap.get? it = some { cls := .type "str_ascii_iterator", data := .fields #[.str x t, .int i 0] }) (hx : x.cps[i]? = some c) (ha : a ≠ it)
    (hQ : ∀ h' u tk, h'.get? it = some { cls := .type "str_ascii_iterator", data := .fields #[.str x t, .int (i + 1 : Nat) 0] } → Heap.SameBut it s.heap h' → Q (some (.int c u)) { s with heap := h', toks := tk }) :
    wpAny (model prog w) A (pyNext (.ref a)) Q E s := by
  unfold pyNext
  refine wpAny_bind (wpAny_attempt (wpAny_callSpecial?_slot (name := Str.ofString "__next__") ⟨_, hm, rfl⟩ FM.slot_map_next
    (wpAny_call_entry FM.slot_map_next ⟨_, hm, rfl⟩ FM.entry_map_next ?_ (FM.args_map_next _))))
  show wpAny _ _ (field (.ref a) 0 >>= _) _ _ s
  refine wpAny_bind (wpAny_field hm rfl (x := .ref tp) rfl ?_)
  refine wpAny_bind (wpAny_seqItems ht rfl ?_)
  dsimp only
  rw [← Array.forIn_toList]
  simp only [List.forIn_cons, List.forIn_nil]
  refine wpAny_bind (wpAny_bind (wpAny_bind (wpAny_holding (nextOf_ascii_item hit hx fun h' hit' hs' => ?_))))
  refine wpAny_pure (wpAny_pure ?_)
  have hm' : h'.get? a = some (mapObj tp) := (hs'.2 a ha).trans hm
  refine wpAny_bind (wpAny_field hm' rfl (x := .builtin "ord") rfl ?_)
  refine wpAny_bind (wpAny_holding (PySem.P.ord_of_char ?_))
  exact wpAny_bind (wpAny_letGo (wpAny_pure ⟨_, rfl, wpAny_pure (hQ _ _ _ hit' hs')⟩))

theorem pyNext_map_end {a tp it : Addr} {x : Str} {t : Tok} {i : Nat} {Q : Option Value → Shared → Prop} (hh : A.handled = none)
    (hm : s.heap.get? a = some (mapObj tp)) (ht : s.heap.get? tp = some (mapTupObj it))
    (hit : s.heap.get? it = some { cls := .type "str_ascii_iterator", data := .fields #[.str x t, .int i 0] }) (hx : x.cps[i]? = none)
    (hQ : ∀ h', Heap.ExtBut it s.heap h' → Q none { s with heap := h' }) :
    wpAny (model prog w) A (pyNext (.ref a)) Q E s := by
  unfold pyNext
  refine wpAny_bind (wpAny_attempt (wpAny_callSpecial?_slot (name := Str.ofString "__next__") ⟨_, hm, rfl⟩ FM.slot_map_next
    (wpAny_call_entry FM.slot_map_next ⟨_, hm, rfl⟩ FM.entry_map_next ?_ (FM.args_map_next _))))
  show wpAny _ _ (field (.ref a) 0 >>= _) _ _ s
  refine wpAny_bind (wpAny_field hm rfl (x := .ref tp) rfl ?_)
  refine wpAny_bind (wpAny_seqItems ht rfl ?_)
  dsimp only
  rw [← Array.forIn_toList]
  simp only [List.forIn_cons, List.forIn_nil]
  refine wpAny_bind (wpAny_bind (wpAny_bind (wpAny_holding (nextOf_ascii_end (A := A.in1) hh hit hx fun h' e he ⟨o, ho, hc⟩ => ?_))))
  refine wpAny_bind (wpAny_isInstance (T := "StopIteration") (b := true) ⟨_, ho, hc⟩ isSubtype_stop ?_)
  exact wpAny_pure (hQ _ he)

theorem kind_xor : builtinKind "_operator.xor" = none := by decide +kernel
theorem plain_xor : plainId "_operator.xor" = true := by decide +kernel
theorem entry_xor : entryFor table "_operator.xor" = some Builtin.«_operator.xor» := entryFor_of_tree (by kernel_rfl)
theorem args_xor (a b : Value) : argsOk "_operator.xor" ⟨[a, b], []⟩ := by unfold argsOk; kernel_rfl
theorem call_xor {i j : Int} {t u : Tok} {Q : Value → Shared → Prop} (h : ∀ t' tk, Q (.int (Builtin.bitXor i j) t') { s with toks := tk }) :
    wpAny (model prog w) A (call (.builtin "_operator.xor") [.int i t, .int j u]) Q E s := by
  refine Calls.call_function_entry kind_xor plain_xor entry_xor (args_xor _ _) ?_
  unfold Builtin.«_operator.xor»
  show wpAny _ _ (binaryOp .BitXor (.int i t) (.int j u) >>= ret) _ _ _
  exact wpAny_bind (PyProof.Rows.xor_int (wpAny_pure ⟨_, rfl, h _ _⟩))

theorem kind_red : builtinKind "_functools.reduce" = none := by decide +kernel
theorem plain_red : plainId "_functools.reduce" = true := by decide +kernel
theorem entry_red : entryFor table "_functools.reduce" = some Builtin.«_functools.reduce» := entryFor_of_tree (by kernel_rfl)
theorem args_red (a b c : Value) : argsOk "_functools.reduce" ⟨[a, b, c], []⟩ := by unfold argsOk; kernel_rfl
theorem plain_redl : plainId "_functools.reduce.loop" = true := by decide +kernel
theorem entry_redl : entryFor table "_functools.reduce.loop" = some Builtin.«_functools.reduce.loop» := entryFor_of_tree (by kernel_rfl)

def xorFrom (r : Int) (l : List Nat) : Int := l.foldl (fun (a : Int) (c : Nat) => Builtin.bitXor a (c : Int)) r

def IsSeqAt (h : Heap) (p : Addr) : Prop := ∃ a b, IsPair h p a b

theorem reduce_loop {x : Str} {t : Tok} {pr ow mp tp it : Addr} {items : Array Value} {oo : Obj} {nn : Nat} (hh : A.handled = none) :
    ∀ (n i : Nat) (r : Int) (tr : Tok) (s : Shared) (R : Result → Shared → Prop), n + i = x.cps.size → IsSeqAt s.heap pr → s.heap.get? ow = some oo → oo.data = .seq items nn → items[0]? = some (.builtin "_operator.xor") →
    s.heap.get? mp = some (mapObj tp) → s.heap.get? tp = some (mapTupObj it) → s.heap.get? it = some { cls := .type "str_ascii_iterator", data := .fields #[.str x t, .int i 0] } →
    pr ≠ ow → pr ≠ mp → pr ≠ tp → pr ≠ it → it ≠ ow → it ≠ mp → it ≠ tp →
    (∀ h' t' tk', (∀ b o, b ≠ pr → b ≠ it → s.heap.get? b = some o → h'.get? b = some o) → R (.ok (.ret (.int (xorFrom r (x.cps.toList.drop i)) t'))) { s with heap := h', toks := tk' }) →
    codeAny (model prog w) A (.builtin "_functools.reduce.loop" ⟨[.ref pr, .ref mp, .ref ow, .int r tr], []⟩) R s := by
  intro n
  induction n with
  | zero =>
    intro i r tr s R hn ⟨pa, pb, hp⟩ ho hod hf hm ht hit h1 h2 h3 h4 h5 h6 h7 hR
    refine codeAny_builtin entry_redl ?_
    rw [Around.under_plainId plain_redl]
    unfold Builtin.«_functools.reduce.loop»
    dsimp only
    refine wpAny_bind (wpAny_seqItems ho hod ?_)
    have hx : x.cps[i]? = none := Array.getElem?_eq_none (by omega)
    refine wpAny_bind (pyNext_map_end (A := A.in1) hh hm ht hit hx fun h' he => ?_)
    dsimp only
    have hd : x.cps.toList.drop i = [] := List.drop_eq_nil_of_le (by simp; omega)
    rw [hd] at hR
    exact wpAny_pure (hR _ _ _ fun b o _ hb e => he b o hb e)
  | succ n ih =>
    intro i r tr s R hn ⟨pa, pb, hp⟩ ho hod hf hm ht hit h1 h2 h3 h4 h5 h6 h7 hR
    refine codeAny_builtin entry_redl ?_
    rw [Around.under_plainId plain_redl]
    unfold Builtin.«_functools.reduce.loop»
    dsimp only
    refine wpAny_bind (wpAny_seqItems ho hod ?_)
    obtain ⟨c, hx⟩ : ∃ c, x.cps[i]? = some c := ⟨_, Array.getElem?_eq_getElem (by omega)⟩
    refine wpAny_bind (pyNext_map_item hm ht hit hx (Ne.symm h6) fun h' u tk hit' hs' => ?_)
    dsimp only
    have hp' : IsPair h' pr pa pb := (hs'.2 pr h4).trans hp
    refine wpAny_bind (wpAny_seqItems hp' rfl ?_)
    refine wpAny_bind (wpAny_updateSeq_pair hp' fun h₂ hp₂ hs₂ => ?_)
    replace hp₂ : IsPair h₂ pr (.int r tr) pb := hp₂
    replace hs₂ : Heap.SameBut pr h' h₂ := hs₂
    refine wpAny_bind (wpAny_letGo ?_)
    refine wpAny_bind (wpAny_updateSeq_pair hp₂ fun h₃ hp₃ hs₃ => ?_)
    replace hp₃ : IsPair h₃ pr (.int r tr) (.int c u) := hp₃
    replace hs₃ : Heap.SameBut pr h₂ h₃ := hs₃
    refine wpAny_bind (wpAny_letGo ?_)
    have k : ∀ b, b ≠ pr → b ≠ it → h₃.get? b = s.heap.get? b := fun b b1 b2 => ((hs₃.2 b b1).trans (hs₂.2 b b1)).trans (hs'.2 b b2)
    have hf' : items.getD 0 .none = .builtin "_operator.xor" := by simp [Array.getD_eq_getD_getElem?, hf]
    simp only [Option.getD_some, hf']
    refine wpAny_bind (call_xor fun t' tk' => ?_)
    refine wpAny_pure ⟨Code.quiet_builtin _ (by decide +kernel), ?_⟩
    refine ih (i + 1) _ _ _ R (by omega) ⟨_, _, hp₃⟩ ((k ow (Ne.symm h1) (Ne.symm h5)).trans ho) hod hf ((k mp (Ne.symm h2) (Ne.symm h6)).trans hm) ((k tp (Ne.symm h3) (Ne.symm h7)).trans ht)
      ((hs₃.2 it (Ne.symm h4)).trans ((hs₂.2 it (Ne.symm h4)).trans hit')) h1 h2 h3 h4 h5 h6 h7 fun h₄ t₄ tk₄ k₄ => ?_
    have hd : x.cps.toList.drop i = c :: x.cps.toList.drop (i + 1) := by
      have hi : i < x.cps.toList.length := by simp; omega
      rw [List.drop_eq_getElem_cons hi]
      congr 1
      have := Array.getElem?_eq_some_iff.mp hx
      obtain ⟨_, e⟩ := this
      simpa using e
    have e := hR h₄ t₄ tk₄ fun b o b1 b2 e => k₄ b o b1 b2 ((k b b1 b2).trans e)
    rw [hd] at e
    exact e

theorem call_reduce {x : Str} {t u : Tok} {mp tp it : Addr} {Q : Value → Shared → Prop} (hh : A.handled = none) 
    (hm : s.heap.get? mp = some (mapObj tp)) (ht : s.heap.get? tp = some (mapTupObj it)) (hit : s.heap.get? it = some { cls := .type "str_ascii_iterator", data := .fields #[.str x t, .int (0 : Nat) 0] })
    (h6 : it ≠ mp) (h7 : it ≠ tp)
    (h : ∀ h' t' tk', (∀ b o, b ≠ it → s.heap.get? b = some o → h'.get? b = some o) → Q (.int (xorFrom 0 x.cps.toList) t') { s with heap := h', toks := tk' }) :
    wpAny (model prog w) A (call (.builtin "_functools.reduce") [.builtin "_operator.xor", .ref mp, .int 0 u]) Q E s := by
  refine wpAny_call (codeAny_call_builtin plain_red entry_red ?_)
  have hck : checkBuiltinCall "_functools.reduce" ⟨[.builtin "_operator.xor", .ref mp, .int 0 u], []⟩ = pure () := by kernel_rfl
  rw [hck]
  refine wpAny_pure ?_
  unfold Builtin.«_functools.reduce»
  show wpAny _ _ ((pyIter (.ref mp)).tryCatch _ >>= _) _ _ _
  refine wpAny_bind (wpAny_tryCatch (pyIter_map hm ?_))
  refine wpAny_bind (wpAny_holding (wpAny_newTuple ?_))
  refine wpAny_bind (wpAny_holding (wpAny_newTuple ?_))
  refine wpAny_pure ⟨Code.quiet_builtin _ (by decide +kernel), ?_⟩
  have l1 := Heap.lt_size hm
  have l2 := Heap.lt_size ht
  have l3 := Heap.lt_size hit
  have g : ∀ b o, s.heap.get? b = some o → ((s.heap.push { cls := .type "tuple", data := .seq #[rawInt 0, rawInt 0] }).push { cls := .type "tuple", data := .seq #[.builtin "_operator.xor", .ref mp, .int 0 u] }).get? b = some o := fun b o e => Heap.get?_push_of_some _ (Heap.get?_push_of_some _ e)
  have g2 : ((s.heap.push { cls := .type "tuple", data := .seq #[rawInt 0, rawInt 0] }).push { cls := .type "tuple", data := .seq #[.builtin "_operator.xor", .ref mp, .int 0 u] }).get? (s.heap.objs.size + 1) = some { cls := .type "tuple", data := .seq #[.builtin "_operator.xor", .ref mp, .int 0 u] } := by
    have := Heap.get?_push_size (s.heap.push { cls := .type "tuple", data := .seq #[rawInt 0, rawInt 0] }) (o := { cls := .type "tuple", data := .seq #[.builtin "_operator.xor", .ref mp, .int 0 u] }) rfl
    simp only [Heap.size_push] at this; exact this
  have n0 : s.heap.objs.size ≠ s.heap.objs.size + 1 := Nat.ne_of_lt (Nat.lt_succ_self _)
  have n5 : it ≠ s.heap.objs.size + 1 := Nat.ne_of_lt (Nat.lt_succ_of_lt l3)
  show codeAny _ _ (Code.builtin "_functools.reduce.loop" ⟨[.ref s.heap.objs.size, .ref mp, .ref (s.heap.push { cls := .type "tuple", data := .seq #[rawInt 0, rawInt 0] }).objs.size, .int 0 u], []⟩) _ _
  rw [Heap.size_push]
  refine reduce_loop (x := x) (t := t) (pr := s.heap.objs.size) (ow := s.heap.objs.size + 1) (mp := mp) (tp := tp) (it := it) (items := #[.builtin "_operator.xor", .ref mp, .int 0 u]) (nn := 0) hh x.cps.size 0 0 u _ _ rfl
    ⟨rawInt 0, rawInt 0, Heap.get?_push_of_some _ (Heap.get?_push_size _ rfl)⟩ g2 rfl rfl (g _ _ hm) (g _ _ ht) (g _ _ hit)
    n0 (Nat.ne_of_gt l1) (Nat.ne_of_gt l2) (Nat.ne_of_gt l3) n5 h6 h7 fun h' t' tk' k => ?_
  rw [List.drop_zero]
  exact h h' t' tk' fun b o hb e => k b o (fun q => absurd (Heap.lt_size e) (by rw [q]; exact Nat.lt_irrefl _)) hb (g b o e)
end
end Mine
end
-- Ex
section
open PySem PySem.W PyProof.Rows
set_option maxRecDepth 100000
namespace Mine
open PySem Builtin
/-- what an own exception class of this text is, as the rules ask it -/
structure ExcLine (bm : List Value) : Prop where
  hasB : bm.contains (.type "ValueError") = true
  hasBase : bm.contains (.type "BaseException") = true
  noAttr : bm.contains (.type "AttributeError") = false
  noName : bm.contains (.type "NameError") = false

section
variable {prog : Program} {w : World} {A : Around} {E : Value → Shared → Prop} {R : Result → Shared → Prop} {h : Heap} {g : Array GenState} {d : Drawn} {t : Nat} {os : OsState}
variable {nm q : Str} {C N : Addr} {bs bm : List Value} {hdct : Bool} {sn : List Str} {sub : List Value} {ab : Bool} {col : Option Bool} {dd : Option Addr} {k0 k1 k2 k3 k5 : Option Value} {K : Frag}

theorem check_new_own (T : ExcLine bm) {M : Model} {rest : List Value} {Q : Unit → Shared → Prop} (hC : h.get? C = some (excClassObj nm q C N bs bm hdct sn sub ab col dd k0 k1 k2 k3 k5 "ValueError.__new__"))
    (hq : Q () ⟨h, g, d, t, os⟩) : wpAny M A (checkBuiltinCall "ValueError.__new__" ⟨.ref C :: rest, []⟩) Q E ⟨h, g, d, t, os⟩ := by
  have F := F.excBase_ValueError
  have hcont : (Value.ref C :: bm).contains (.type "ValueError") = true := by rw [List.contains_cons, T.hasB, Bool.or_true]
  simp only [checkBuiltinCall, F.newKind, F.newSplit, F.newRow]
  repeat (first | refine wpAny_loadPart_at hC ?_ | (refine wpAny_isSubtype_exc hC ?_; rw [hcont]) | refine wpAny_staticBase_exc hC ?_ | refine wpAny_madeBy_exc hC ?_ | simp only [bne_self_eq_false, Bool.false_eq_true, if_false] | wp_step)
  exact hq

theorem exc_new_own (T : ExcLine bm) {rest : List Value} (hC : h.get? C = some (excClassObj nm q C N bs bm hdct sn sub ab col dd k0 k1 k2 k3 k5 "ValueError.__new__"))
    (hq : R (.ok (.ret (.ref (h.objs.size + 1)))) ⟨(h.push { cls := .type "tuple", data := .seq rest.toArray }).push
      { cls := .ref C, data := .fields #[.ref h.objs.size, .none, .none, .none, .bool false, .none] }, g, d, t, os⟩) (hrest : rest.length ≤ sizeLine := by size_fits) :
    codeAny (model prog w) A (.builtin "ValueError.__new__" ⟨.ref C :: rest, []⟩) R ⟨h, g, d, t, os⟩ := by
  have F := F.excBase_ValueError
  have hends := F.ends
  have hcB : (Value.ref C :: bm).contains (.type "ValueError") = true := by rw [List.contains_cons, T.hasB, Bool.or_true]
  have hcA : (Value.ref C :: bm).contains (.type "AttributeError") = false := by rw [List.contains_cons, T.noAttr]; rfl
  have hcN : (Value.ref C :: bm).contains (.type "NameError") = false := by rw [List.contains_cons, T.noName]; rfl
  refine codeAny_builtinAt F.entry ?_
  unfold Builtin.«BaseException.__new__»
  refine PySem.wpAt_bind ?_
  show PySem.wpAt _ _ _ (stack >>= _) _ _ _
  refine PySem.wpAt_bind (PySem.wpAt_stack fun p below => PySem.wpAt_of_wpAny ?_)
  wp_walk
  refine PySem.wpAt_of_wpAny ?_
  rw [F.owner]
  repeat (first | with_reducible refine wpAny_madeHere_exc F.canon hC ?_ | with_reducible refine wpAny_loadPart_at hC ?_ | (with_reducible refine wpAny_isSubtype_exc hC ?_; first | rw [hcB] | rw [hcA] | rw [hcN]) | wp_step)
  show R _ _
  rw [Heap.size_push]
  exact hq

theorem call_own_exc (T : ExcLine bm) (X : K.In h) {rest : List Value} {fI : Addr} {Q : Value → Shared → Prop}
    (hC : h.get? C = some (excClassObj nm q C N bs bm hdct sn sub ab col dd k0 k1 k2 k3 k5 "ValueError.__new__")) (hi : findIn K (.ref C) "__init__" = some (some (.ref fI))) (hf : typeIn K (.ref fI) = some (.type "function"))
    (hq : ∀ h' e, Heap.MadeExcOf h h' e (.ref C) rest →
      wpAny (model prog w) (A.under (.builtin "type.__call__" ⟨.ref C :: rest, []⟩)) (call (.ref fI) (.ref e :: rest)) (fun r s' => r = .none ∧ Q (.ref e) s') E ⟨h', g, d, t, os⟩) (hrest : rest.length ≤ sizeLine := by size_fits) :
    wpAny (model prog w) A (call (.ref C) rest) Q E ⟨h, g, d, t, os⟩ := by
  have F := F.excBase_ValueError
  have f1 := tc_lookup
  have f2 := tc_bind (.ref C)
  have hT : (⟨h, g, d, t, os⟩ : Shared).TypeIs (.ref C) "type" := ⟨_, hC, rfl⟩
  refine wpAny_call (codeAny_of_tree ?_)
  show wpAny _ _ (callAny (.ref C) _) _ _ _
  repeat (any_goals (first | assumption | with_reducible refine wpAny_loadPart_at hC ?_ | wp_step))
  refine ⟨rfl, ?_⟩
  refine codeAny_call_builtin_at (Code.quiet_builtin _ (by decide +kernel)) entry_typeCall (wpAny_check_type_call_sub hC ?_)
  repeat (first | with_reducible refine wpAny_loadPart_at hC ?_ | with_reducible refine wpAny_madeBy_exc hC ?_ | wp_step)
  refine codeAny_call_builtin_code (Code.quiet_builtin _ F.quiet) (check_new_own T hC ?_)
  refine exc_new_own T hC ?_ hrest
  show wpAny _ _ _ _ _ _
  have up : ∀ b o, h.get? b = some o → ((h.push { cls := .type "tuple", data := .seq rest.toArray }).push { cls := .ref C, data := .fields #[.ref h.objs.size, .none, .none, .none, .bool false, .none] }).get? b = some o := fun b o e => Heap.get?_push_of_some _ (Heap.get?_push_of_some _ e)
  have hC₁ := up _ _ hC
  have X₁ : K.In ((h.push { cls := .type "tuple", data := .seq rest.toArray }).push { cls := .ref C, data := .fields #[.ref h.objs.size, .none, .none, .none, .bool false, .none] }) := X.keeps up
  have hget : ((h.push { cls := .type "tuple", data := .seq rest.toArray }).push
      { cls := .ref C, data := .fields #[.ref h.objs.size, .none, .none, .none, .bool false, .none] }).get? (h.objs.size + 1) = some
      { cls := .ref C, data := .fields #[.ref h.objs.size, .none, .none, .none, .bool false, .none] } := by heap_get
  have hcC : (Value.ref C :: bm).contains (.ref C) = true := by simp
  unfold isInstance
  repeat (first | with_reducible refine wpAny_loadPart_at hget ?_ | (dsimp only; with_reducible refine wpAny_isSubtype_exc hC₁ ?_; rw [hcC]) | (with_reducible refine wpAny_isSubtype_exc hC₁ ?_; rw [hcC]) | wp_step)
  refine wpAny_isSubtype_exc hC₁ ?_
  rw [hcC]
  repeat (first | with_reducible refine wpAny_loadPart_at hget ?_ | wp_step)
  show wpAny _ _ (typeLookup (.ref C) _) _ _ _
  refine (looks_findIn X₁ hi).at ?_
  refine wpAny_holding (wpAny_bind ?_)
  refine (bind_fn X₁ _ hf).at ?_
  refine (wpAny_bind (wpAny_mono (hq _ (h.objs.size + 1) ⟨up, Heap.get?_none_of_le (Nat.le_succ _), h.objs.size, hget, Heap.get?_none_of_le (Nat.le_refl _), ?_⟩) (fun r s' hr => ?_) fun _ _ x => x))
  · exact Heap.get?_push_of_some _ (Heap.get?_push_at rfl rfl)
  · obtain ⟨rfl, hQ⟩ := hr
    wp_walk
    exact hQ
end
end Mine
end
-- Ex2
section
local macro_rules | `(tactic| walk_at "mine no such step") => `(tactic| skip)
local macro_rules | `(tactic| walk_at "mine no such step") => `(tactic| skip)
local macro_rules | `(tactic| walk_at "mine no such step") => `(tactic| skip)
local macro_rules | `(tactic| walk_at "mine no such step") => `(tactic| skip)
local macro_rules | `(tactic| walk_at "mine no such step") => `(tactic| skip)
local macro_rules | `(tactic| walk_at "mine no such step") => `(tactic| skip)
local macro_rules | `(tactic| walk_at "mine no such step") => `(tactic| skip)
local macro_rules | `(tactic| walk_at "mine no such step") => `(tactic| skip)
local macro_rules | `(tactic| walk_at "mine no such step") => `(tactic| skip)
local macro_rules | `(tactic| walk_at "mine no such step") => `(tactic| skip)
local macro_rules | `(tactic| walk_at "mine no such step") => `(tactic| skip)
local macro_rules | `(tactic| walk_at "mine no such step") => `(tactic| skip)
local macro_rules | `(tactic| walk_at "mine no such step") => `(tactic| skip)
local macro_rules | `(tactic| walk_at "mine no such step") => `(tactic| skip)
local macro_rules | `(tactic| walk_at "mine no such step") => `(tactic| skip)
local macro_rules | `(tactic| walk_at "mine no such step") => `(tactic| skip)
local macro_rules | `(tactic| walk_at "mine no such step") => `(tactic| skip)
local macro_rules | `(tactic| walk_at "mine no such step") => `(tactic| skip)
local macro_rules | `(tactic| walk_at "mine no such step") => `(tactic| skip)
local macro_rules | `(tactic| walk_at "mine no such step") => `(tactic| skip)
local macro_rules | `(tactic| walk_at "mine no such step") => `(tactic| skip)
local macro_rules | `(tactic| walk_at "mine no such step") => `(tactic| skip)
local macro_rules | `(tactic| walk_at "mine no such step") => `(tactic| skip)
local macro_rules | `(tactic| walk_at "mine no such step") => `(tactic| skip)
local macro_rules | `(tactic| walk_at "mine no such step") => `(tactic| skip)
local macro_rules | `(tactic| walk_at "mine no such step") => `(tactic| skip)
local macro_rules | `(tactic| walk_at "mine no such step") => `(tactic| skip)
local macro_rules | `(tactic| walk_at "mine no such step") => `(tactic| skip)
local macro_rules | `(tactic| walk_at "mine no such step") => `(tactic| skip)
local macro_rules | `(tactic| walk_at "mine no such step") => `(tactic| skip)
local macro_rules | `(tactic| walk_at "mine no such step") => `(tactic| skip)
local macro_rules | `(tactic| walk_at "mine no such step") => `(tactic| skip)
local macro_rules | `(tactic| walk_at "mine no such step") => `(tactic| skip)
local macro_rules | `(tactic| walk_at "mine no such step") => `(tactic| skip)
local macro_rules | `(tactic| walk_at "mine no such step") => `(tactic| skip)
local macro_rules | `(tactic| walk_at "mine no such step") => `(tactic| skip)
local macro_rules | `(tactic| walk_at "mine no such step") => `(tactic| skip)
local macro_rules | `(tactic| walk_at "mine no such step") => `(tactic| skip)
local macro_rules | `(tactic| walk_at "mine no such step") => `(tactic| skip)
local macro_rules | `(tactic| walk_at "mine no such step") => `(tactic| skip)
open PySem PySem.W PyProof.Rows
set_option maxRecDepth 100000
namespace Mine
open PySem Builtin
namespace FM
theorem slot_wd_get : Slot "wrapper_descriptor" "__get__" "wrapper_descriptor.__get__" := .of (owner := "wrapper_descriptor") (n := "__get__") (by rw [typeLookup_type, builtinLookup_eq_fast]; kernel_rfl) (by decide +kernel) (by decide +kernel) (by decide +kernel)
  (by first | exact .inl (by decide +kernel) | exact .inr (by decide +kernel)) (by rw [isSubtype_type]; kernel_rfl)
theorem entry_wd_get : entryFor table "wrapper_descriptor.__get__" = some Builtin.«wrapper_descriptor.__get__» := entryFor_of_tree (by kernel_rfl)
theorem args_wd_get (a b c : Value) : argsOk "wrapper_descriptor.__get__" ⟨[a, b, c], []⟩ := by unfold argsOk; kernel_rfl
theorem type_vi : typeOf (.builtin "ValueError.__init__") = pure (.type "wrapper_descriptor") := by show builtinType _ = _; rw [builtinType_eq_fast]; kernel_rfl
end FM
section
variable {prog : Program} {w : World} {A : Around} {E : Value → Shared → Prop} {R : Result → Shared → Prop} {h : Heap} {g : Array GenState} {d : Drawn} {t : Nat} {os : OsState}
variable {nm q : Str} {C N : Addr} {bs bm : List Value} {hdct : Bool} {sn : List Str} {sub : List Value} {ab : Bool} {col : Option Bool} {dd : Option Addr} {k0 k1 k2 k3 k5 : Option Value} {K : Frag} {newId : String}

theorem wd_get_exc (T : ExcLine bm) {x : Addr} {ox : Obj} {b : Value} {Q : Fin → Shared → Prop} (hC : h.get? C = some (excClassObj nm q C N bs bm hdct sn sub ab col dd k0 k1 k2 k3 k5 newId)) (hx : h.get? x = some ox) (hxc : ox.cls = .ref C)
    (hb : b ≠ .none)
    (hq : Q (.done (.ret (.ref h.objs.size))) ⟨h.push { cls := .type "method-wrapper", data := .fields #[.builtin "ValueError.__init__", .ref x] }, g, d, t, os⟩) :
    wpAny (model prog w) A (Builtin.«wrapper_descriptor.__get__» ⟨[.builtin "ValueError.__init__", .ref x, b], []⟩) Q E ⟨h, g, d, t, os⟩ := by
  have hcont : (Value.ref C :: bm).contains (.type "ValueError") = true := by rw [List.contains_cons, T.hasB, Bool.or_true]
  have hbn : (b == Value.none) = false := by simpa using hb
  unfold Builtin.«wrapper_descriptor.__get__»
  have hown : ".".intercalate ("ValueError.__init__".cutAt '.').dropLast = "ValueError" := by decide +kernel
  repeat (first
    | (with_reducible refine wpAny_loadPart_at hx ?_; rw [hxc])
    | (simp only [hbn, Bool.false_eq_true, if_false])
    | wp_step
    | dsimp only)
  rw [hown]
  refine wpAny_isSubtype_exc hC ?_
  rw [hcont]
  repeat wp_step
  all_goals exact hq

set_option maxHeartbeats 4000000 in
theorem super_ga_exc (T : ExcLine bm) {so D x : Addr} {ox : Obj} {l : List Value} {tk : Tok} {Q : Fin → Shared → Prop} (hC : h.get? C = some (excClassObj nm q C N bs bm hdct sn sub ab col dd k0 k1 k2 k3 k5 newId)) (hx : h.get? x = some ox) (hxc : ox.cls = .ref C)
    (hso : h.get? so = some { cls := .type "super", dict := none, data := .fields #[.ref D, .ref x, .ref C], slots := #[] }) (hno : Looks (model prog w) h (opaqueClassAbove (.ref C)) none)
    (hl : ((.ref C :: bm).dropWhile (· != .ref D)).drop 1 = l) (X : K.In h)
    (hf : alongIn K "__init__" l = some (some (.builtin "ValueError.__init__"))) (hxC : x ≠ C)
    (hq : Q (.done (.ret (.ref h.objs.size))) ⟨h.push { cls := .type "method-wrapper", data := .fields #[.builtin "ValueError.__init__", .ref x] }, g, d, t, os⟩) :
    wpAny (model prog w) A (Builtin.«super.__getattribute__» ⟨[.ref so, .str "__init__" tk], []⟩) Q E ⟨h, g, d, t, os⟩ := by
  have hlk := FM.slot_wd_get.lookup
  have hty := FM.type_vi
  have hne : (Value.ref x == Value.ref C) = false := by simp [hxC]
  have hTf : ∀ t', (⟨h, g, d, t', os⟩ : Shared).TypeIs (.builtin "ValueError.__init__") "wrapper_descriptor" := fun _ => FM.type_vi
  have hdt : ({ cls := .type "super", dict := none, data := .fields #[.ref D, .ref x, .ref C], slots := #[] } : Obj).data = .fields #[.ref D, .ref x, .ref C] := rfl
  have f0 : (#[.ref D, .ref x, .ref C] : Array Value)[0]? = some (.ref D) := rfl
  have f1 : (#[.ref D, .ref x, .ref C] : Array Value)[1]? = some (.ref x) := rfl
  have f2 : (#[.ref D, .ref x, .ref C] : Array Value)[2]? = some (.ref C) := rfl
  have hn : (("__init__" : Str) == ("__class__" : Str)) = false := by decide +kernel
  unfold Builtin.«super.__getattribute__»
  repeat (first
    | (with_reducible refine wpAny_field hso hdt f0 ?_) | (with_reducible refine wpAny_field hso hdt f1 ?_) | (with_reducible refine wpAny_field hso hdt f2 ?_)
    | (with_reducible refine ks_wpAny_notOpaque hno ?_)
    | (with_reducible refine wpAny_mroOf_exc hC ?_; rw [hl])
    | (refine ks_forIn_along X (fun _ _ => rfl) rfl ?_ hf)
    | (with_reducible refine wpAny_call_entry FM.slot_wd_get (hTf _) FM.entry_wd_get ?_ (FM.args_wd_get _ _ _))
    | (simp only [hn, hne, Bool.or_false, Bool.false_eq_true, if_false])
    | wp_step
    | dsimp only)
  have hown : ".".intercalate ("ValueError.__init__".cutAt '.').dropLast = "ValueError" := by decide +kernel
  have hcont : (Value.ref C :: bm).contains (.type "ValueError") = true := by rw [List.contains_cons, T.hasB, Bool.or_true]
  rw [hxc, hown]
  refine wpAny_isSubtype_exc hC ?_
  rw [hcont]
  repeat (first | wp_step | (with_reducible refine ⟨_, rfl, ?_⟩) | dsimp only)
  all_goals exact hq

theorem super_init_method (T : ExcLine bm) {so D x : Addr} {ox : Obj} {l : List Value} {pl : Sem Bool} {Q : Value × List Value → Shared → Prop} (hC : h.get? C = some (excClassObj nm q C N bs bm hdct sn sub ab col dd k0 k1 k2 k3 k5 newId)) (hx : h.get? x = some ox) (hxc : ox.cls = .ref C)
    (hso : h.get? so = some { cls := .type "super", dict := none, data := .fields #[.ref D, .ref x, .ref C], slots := #[] }) (hno : Looks (model prog w) h (opaqueClassAbove (.ref C)) none)
    (hl : ((.ref C :: bm).dropWhile (· != .ref D)).drop 1 = l) (X : K.In h)
    (hf : alongIn K "__init__" l = some (some (.builtin "ValueError.__init__"))) (hxC : x ≠ C)
    (hq : Q (.ref h.objs.size, []) ⟨h.push { cls := .type "method-wrapper", data := .fields #[.builtin "ValueError.__init__", .ref x] }, g, d, t + 1, os⟩) :
    wpAny (model prog w) A (getMethod (.ref so) "__init__" pl) Q E ⟨h, g, d, t, os⟩ := by
  have hlk := PySem.F.ks_slot_super_ga.lookup
  have hcan := PySem.F.ks_canon_super_ga
  have hT : ∀ t', (⟨h, g, d, t', os⟩ : Shared).TypeIs (.ref so) "super" := fun _ => ⟨_, hso, rfl⟩
  unfold getMethod
  refine wpAny_bind (wpAny_specialOf (hT _) hlk ?_)
  show wpAny _ _ (if (Manifest.canonical "super.__getattribute__" != "object.__getattribute__") = true then _ else _) _ _ _
  rw [if_pos hcan]
  unfold getAttr getAttrBy
  refine wpAny_bind (wpAny_bind (wpAny_mkText (wpAny_holding (wpAny_bind (wpAny_typeOf (hT _) (wpAny_bind (wpAny_of_eq hlk ?_)))))))
  show wpAny _ _ (getAttrByItsOwn (.ref so) (.str "__init__" t) (.type "super") (.builtin "super.__getattribute__") true false) _ _ _
  unfold getAttrByItsOwn hookBefore callGetattribute boundAndCalled
  refine wpAny_bind (wpAny_of_eq (show (if onTheHeap (.type "super") then typeLookup (.type "super") "__getattr__" else pure none) = pure none from rfl) ?_)
  refine wpAny_bind (wpAny_attempt (wpAny_holding ?_))
  show wpAny _ _ (bindSpecial (.builtin "super.__getattribute__") (.ref so) >>= _) _ _ _
  refine wpAny_bind (wpAny_of_eq (PySem.F.ks_slot_super_ga.bind _) ?_)
  refine wpAny_mono (Q := fun v s' => v = .ref h.objs.size ∧ s' = ⟨h.push { cls := .type "method-wrapper", data := .fields #[.builtin "ValueError.__init__", .ref x] }, g, d, t + 1, os⟩) (E := fun _ _ => False)
    (wpAny_call_entry PySem.F.ks_slot_super_ga (hT _) PySem.F.ks_entry_super_ga (super_ga_exc T hC hx hxc hso hno hl X hf hxC ⟨_, rfl, rfl, rfl⟩) (PySem.F.ks_gaArgs_super _ _)) (fun v s' hv => ?_) fun _ _ z => z.elim
  obtain ⟨rfl, rfl⟩ := hv
  exact wpAny_pure (wpAny_pure hq)

theorem kind_vi : builtinKind "ValueError.__init__" = some .slot := PySem.F.excBase_ValueError.initKind

theorem call_bound_vinit (T : ExcLine bm) {b x tt : Addr} {v : Value} {Q : Value → Shared → Prop} (hC : h.get? C = some (excClassObj nm q C N bs bm hdct sn sub ab col dd k0 k1 k2 k3 k5 newId))
    (hx : h.get? x = some { cls := .ref C, data := .fields #[.ref tt, .none, .none, .none, .bool false, .none] })
    (hb : h.get? b = some { cls := .type "method-wrapper", dict := none, data := .fields #[.builtin "ValueError.__init__", .ref x], slots := #[] })
    (hq : ∀ h', (∀ y o, y ≠ x → h.get? y = some o → h'.get? y = some o) → h'.get? x = some { cls := .ref C, data := .fields #[.ref h.objs.size, .none, .none, .none, .bool false, .none] } → h'.get? h.objs.size = some { cls := .type "tuple", data := .seq #[v] } → Q .none ⟨h', g, d, t, os⟩) :
    wpAny (model prog w) A (call (.ref b) [v]) Q E ⟨h, g, d, t, os⟩ := by
  have F := PySem.F.excBase_ValueError
  refine wpAny_call (codeAny_of_tree ?_)
  show wpAny _ A.in1 (callAny (.ref b) ⟨[v], []⟩) _ _ _
  unfold callAny
  refine wpAny_bind (wpAny_load hb ?_)
  show wpAny _ _ (checkBoundCall "ValueError.__init__" ⟨[.ref x, v], []⟩ >>= fun _ => again (.builtin "ValueError.__init__" ⟨[.ref x, v], []⟩)) _ _ _
  refine wpAny_bind ?_
  unfold checkBoundCall
  simp only [F.initRow, F.initKind]
  have hstar := F.noStar
  repeat wp_step
  refine ⟨Code.quiet_builtin _ (by decide +kernel), ?_⟩
  refine codeAny_builtin F.initEntry ?_
  rw [Around.under_plainId F.init.plain]
  unfold Builtin.«BaseException.__init__»
  show wpAny _ _ (newTuple [v] >>= _) _ _ _
  refine wpAny_bind (wpAny_newTuple ?_)
  have hx' : (h.push { cls := .type "tuple", data := .seq #[v] }).get? x = some { cls := .ref C, data := .fields #[.ref tt, .none, .none, .none, .bool false, .none] } := Heap.get?_push_of_some _ hx
  unfold BaseException.bexcPut
  refine wpAny_bind (wpAny_bind (wpAny_field hx' rfl (x := .ref tt) rfl ?_))
  refine wpAny_bind (wpAny_setField_rec hx' (by simp) fun h₂ hx₂ hs₂ => ?_)
  have lx := Heap.lt_size hx
  refine wpAny_letGo (wpAny_pure (hq h₂ (fun y o hy e => (hs₂.2 y hy).trans (Heap.get?_push_of_some _ e)) (by simpa using hx₂) ((hs₂.2 _ (Nat.ne_of_gt lx)).trans (Heap.get?_push_size _ rfl))))
end
end Mine
end
-- Bs
section
open PySem PySem.W PyProof.Rows
namespace Mine


theorem funFrames_ext {base h h' : Heap} (k : ∀ b o, h.get? b = some o → h'.get? b = some o) {l : List Env} (x : h.FunFrames base l) : h'.FunFrames base l :=
  x.of_keeps fun b o e _ => ⟨o, k b o e, rfl⟩

section
variable {prog : Program} {w : World} {A : Around} {s : Shared} {base : Heap} {outer : List Env} {K : Frag} {R : Result → Shared → Prop}
/-- a call of a def of the text: the frame's own facts over what stood at the call -/
theorem enter {name qual : Str} {params : Arguments} {body : List Stmt} {scope : Scope} {dV kV doc pm cdv ct oc : Value} {an od : Option Addr} {osl : Array (Option Value)} {f : Addr} {args : Args} {binds : List (Str × Value)}
    (X : K.In s.heap) (hlim : s.heap.NoLimit)
    (ho : K.lookup f = some ⟨oc, od, .func (fnOf name qual params body scope dV kV doc pm an cdv ct), osl⟩) (hcd : codeIn K cdv qual = true) (hroom : A.depth < recursionLimit)
    (hbind : BindsTo s (fnOf name qual params body scope dV kV doc pm an cdv ct) args binds) (hloc : ∀ y ∈ binds, scope.names.lookup y.1 = some .local)
    (h : ∀ L h₁, Fr s.heap L h₁ (fun y => binds.reverse.lookup y) → News s.heap L h₁ [] →
      wpAny (model prog w) (A.deeper (envOf qual scope L f cdv)) (execs body (envOf qual scope L f cdv))
        (fun fl s' => R (.ok (.ret (match fl with | .ret v => v | _ => .none))) s')
        (fun e s' => wpAny (model prog w) (A.deeper (envOf qual scope L f cdv)) (leaving (envOf qual scope L f cdv) e) (fun _ s'' => R (.error e) s'') (fun e' s'' => R (.error e') s'') s')
        { s with heap := h₁, toks := s.toks + binds.length })
    (hco : scope.isCoroutine = false) (hgen : scope.isGenerator = false) (hk : scope.kind = .function)
    (hcell : ∀ x ∈ scope.names, x.2 ≠ .cell) : codeAny (model prog w) A (.call (.ref f) args) R s := by
  refine codeAny_call_def (fd := fnOf name qual params body scope dV kV doc pm an cdv ct) (body := body) (binds := binds) hroom (X _ _ ho) rfl hlim (codeRec_of X hcd) rfl hbind hcell hloc (fun h₁ hns hk₁ => ?_) hco hgen hk
  exact h s.heap.objs.size h₁ ⟨hns, hk₁, Nat.le_refl _⟩ News.nil
end

end Mine
end
-- Sp1
section
local macro_rules | `(tactic| walk_at "mine no such step") => `(tactic| skip)
local macro_rules | `(tactic| walk_at "mine no such step") => `(tactic| skip)
local macro_rules | `(tactic| walk_at "mine no such step") => `(tactic| skip)
local macro_rules | `(tactic| walk_at "mine no such step") => `(tactic| skip)
local macro_rules | `(tactic| walk_at "mine no such step") => `(tactic| skip)
local macro_rules | `(tactic| walk_at "mine no such step") => `(tactic| skip)
local macro_rules | `(tactic| walk_at "mine no such step") => `(tactic| skip)
local macro_rules | `(tactic| walk_at "mine no such step") => `(tactic| skip)
local macro_rules | `(tactic| walk_at "mine no such step") => `(tactic| skip)
local macro_rules | `(tactic| walk_at "mine no such step") => `(tactic| skip)
local macro_rules | `(tactic| walk_at "mine no such step") => `(tactic| skip)
local macro_rules | `(tactic| walk_at "mine no such step") => `(tactic| skip)
local macro_rules | `(tactic| walk_at "mine no such step") => `(tactic| skip)
local macro_rules | `(tactic| walk_at "mine no such step") => `(tactic| skip)
local macro_rules | `(tactic| walk_at "mine no such step") => `(tactic| skip)
local macro_rules | `(tactic| walk_at "mine no such step") => `(tactic| skip)
local macro_rules | `(tactic| walk_at "mine no such step") => `(tactic| skip)
local macro_rules | `(tactic| walk_at "mine no such step") => `(tactic| skip)
local macro_rules | `(tactic| walk_at "mine no such step") => `(tactic| skip)
local macro_rules | `(tactic| walk_at "mine no such step") => `(tactic| skip)
local macro_rules | `(tactic| walk_at "mine no such step") => `(tactic| skip)
local macro_rules | `(tactic| walk_at "mine no such step") => `(tactic| skip)
local macro_rules | `(tactic| walk_at "mine no such step") => `(tactic| skip)
local macro_rules | `(tactic| walk_at "mine no such step") => `(tactic| skip)
local macro_rules | `(tactic| walk_at "mine no such step") => `(tactic| skip)
local macro_rules | `(tactic| walk_at "mine no such step") => `(tactic| skip)
local macro_rules | `(tactic| walk_at "mine no such step") => `(tactic| skip)
local macro_rules | `(tactic| walk_at "mine no such step") => `(tactic| skip)
local macro_rules | `(tactic| walk_at "mine no such step") => `(tactic| skip)
local macro_rules | `(tactic| walk_at "mine no such step") => `(tactic| skip)
local macro_rules | `(tactic| walk_at "mine no such step") => `(tactic| skip)
local macro_rules | `(tactic| walk_at "mine no such step") => `(tactic| skip)
local macro_rules | `(tactic| walk_at "mine no such step") => `(tactic| skip)
local macro_rules | `(tactic| walk_at "mine no such step") => `(tactic| skip)
local macro_rules | `(tactic| walk_at "mine no such step") => `(tactic| skip)
local macro_rules | `(tactic| walk_at "mine no such step") => `(tactic| skip)
local macro_rules | `(tactic| walk_at "mine no such step") => `(tactic| skip)
local macro_rules | `(tactic| walk_at "mine no such step") => `(tactic| skip)
local macro_rules | `(tactic| walk_at "mine no such step") => `(tactic| skip)
local macro_rules | `(tactic| walk_at "mine no such step") => `(tactic| skip)
open PySem PySem.W PyProof.Rows
namespace Mine
local macro_rules | `(tactic| walk_at "m_enter") => `(tactic| (refine' enter ?k1 ?k2 ?k6 ?k7 ?k8 ?k9 ?kB ?_ ?c2 ?c3 ?c4 ?c5; (case k1 => assumption); (case k2 => first | assumption | exact Top.nolimit (by assumption)); (case k6 => k_is); (case k7 => k_is); (case k8 => first | assumption | omega | decide); (case k9 => exact BindsTo.of_eq rfl); (case c5 => decide); (case kB => exact locs rfl); (case c2 => exact rfl); (case c3 => exact rfl); (case c4 => exact rfl); k_whole; intro L' h' F' N'; (try dsimp only); (try k_fold)))
theorem call_map_N {prog : Program} {w : World} {A : Around} {E : Value → Shared → Prop} {s : Shared} {h₀ : Heap} {L : Addr} {m : Str → Option Value} {news : List (Addr × Obj)} {x : Str} {t : Tok} {Q : Value → Shared → Prop}
    (F : Fr h₀ L s.heap m) (N : News h₀ L s.heap news) 
    (h : ∀ it tp mp h', it < tp → tp < mp → (∀ p ∈ news, p.1 < it) → Fr h₀ L h' m → News h₀ L h' ((mp, mapObj tp) :: (tp, mapTupObj it) :: (it, strItObj x t 0) :: news) → Q (.ref mp) { s with heap := h' }) :
    wpAny (model prog w) A (call (.type "map") [.builtin "ord", .str x t]) Q E s := by
  refine call_map_str (h s.heap.objs.size (s.heap.objs.size + 1) (s.heap.objs.size + 2) _ (Nat.lt_succ_self _) (Nat.lt_succ_self _) (fun p hp => Heap.lt_size (N p hp).1) (((F.push _).push _).push _) ?_)
  have N1 := N.push F (strItObj x t 0)
  have N2 := N1.push (F.push _) (mapTupObj s.heap.objs.size)
  have N3 := N2.push ((F.push _).push _) (mapObj (s.heap.objs.size + 1))
  simp only [Heap.size_push] at N3
  exact N3
theorem call_reduce_N {prog : Program} {w : World} {A : Around} {E : Value → Shared → Prop} {s : Shared} {h₀ : Heap} {L : Addr} {m : Str → Option Value} {news : List (Addr × Obj)} {x : Str} {t u : Tok} {mp tp it : Addr} {Q : Value → Shared → Prop}
    (hh : A.handled = none) (F : Fr h₀ L s.heap m) (N : News h₀ L s.heap ((mp, mapObj tp) :: (tp, mapTupObj it) :: (it, strItObj x t 0) :: news)) (l1 : it < tp) (l2 : tp < mp) (l3 : ∀ p ∈ news, p.1 < it) (hA : x.cps.all (· < 128) = true)
    (h : ∀ h' t' tk', Fr h₀ L h' m → News h₀ L h' news → Q (.int (xorFrom 0 x.cps.toList) t') { s with heap := h', toks := tk' }) :
    wpAny (model prog w) A (call (.builtin "_functools.reduce") [.builtin "_operator.xor", .ref mp, .int 0 u]) Q E s := by
  have hit := (N (it, strItObj x t 0) (.tail _ (.tail _ (.head _)))).1
  have hty : strIterType x = "str_ascii_iterator" := by unfold strIterType; rw [hA]; rfl
  unfold strItObj at hit
  rw [hty] at hit
  have iL : it ≠ L := (N (it, strItObj x t 0) (.tail _ (.tail _ (.head _)))).2.1
  have i0 : h₀.get? it = none := (N (it, strItObj x t 0) (.tail _ (.tail _ (.head _)))).2.2
  refine call_reduce hh (N _ (.head _)).1 (N _ (.tail _ (.head _))).1 hit (Nat.ne_of_lt (Nat.lt_trans l1 l2)) (Nat.ne_of_lt l1) fun h' t' tk' k => h h' t' tk' ?_ ?_
  · obtain ⟨oL, es, ep, hL, r⟩ := F.ns
    exact ⟨⟨oL, es, ep, k L oL (Ne.symm iL) hL, r⟩, fun b o e => k b o (fun q => by rw [q, i0] at e; cases e) (F.keep b o e), F.above⟩
  · intro p hp
    have P := N p (.tail _ (.tail _ (.tail _ hp)))
    exact ⟨k _ _ (Nat.ne_of_lt (l3 p hp)) P.1, P.2⟩
local macro_rules | `(tactic| walk_at "call type:map") => `(tactic| (k_here; (refine' call_map_N ?k1 ?k2 ?_; (case k1 => k_asm); (case k2 => k_asm); k_whole); intro it' tp' mp' h' l1' l2' l3' F' N'))
local macro_rules | `(tactic| walk_at "call builtin:_functools.reduce") => `(tactic| (k_here; (refine' call_reduce_N ?k0 ?k1 ?k2 ?k3 ?k4 ?k5 ?k6 ?_; (case k0 => exact rfl); (case k1 => k_asm); (case k2 => k_asm); (case k3 => assumption); (case k4 => assumption); (case k5 => assumption); (case k6 => assumption); k_whole); intro h' t' tk' F' N'))
set_option maxRecDepth 100000 in
set_option maxHeartbeats 8000000 in
theorem checksum_spec {prog : Program} {w : World} {mean : ExcName → Option Value} {mg mb : Str → Option Value} {loose : List Str}
   {A : Around} {outer : List Env} {base : Heap} {s : Shared} {R : Result → Shared → Prop} {x : Str} {t : Tok}
   (X : (hd.heap_39 w.params).In s.heap) (T : Top hd.view_39 loose mean mg mb s.heap) (B : Below A base outer s.heap) (hh : A.handled = none) (hd : A.depth < 900) (hu : A.units < 9000)
   (hx : x.length ≤ 4096) (hA : x.cps.all (· < 128) = true)
   (hret : ∀ h' tk' t', s.heap.StaysIn h' → R (.ok (.ret (.int (xorFrom 0 x.cps.toList) t'))) { s with heap := h', toks := tk' }) :
   codeAny (model prog w) A (.call (.ref 113) ⟨[.str x t], []⟩) R s := by
  w_top off
  obtain ⟨hd0, dp, fr, gd, un⟩ := A
  obtain rfl : hd0 = none := hh
  have hroom : dp < recursionLimit := Nat.lt_of_lt_of_le hd (by decide)
  k_dflt walk_at "m_enter"
  k_steps
  all_goals (rename Fr _ _ _ _ => F9; exact hret _ _ _ F9.keep)
end Mine
end
-- Sp2
section
open PySem PySem.W PyProof.Rows
namespace Mine
local macro_rules | `(tactic| walk_at "m_enter") => `(tactic| (refine' enter ?k1 ?k2 ?k6 ?k7 ?k8 ?k9 ?kB ?_ ?c2 ?c3 ?c4 ?c5; (case k1 => assumption); (case k2 => first | assumption | exact Top.nolimit (by assumption)); (case k6 => k_is); (case k7 => k_is); (case k8 => first | assumption | omega | decide); (case k9 => exact BindsTo.of_eq rfl); (case c5 => decide); (case kB => exact locs rfl); (case c2 => exact rfl); (case c3 => exact rfl); (case c4 => exact rfl); k_whole; intro L' h' F' N'; (try dsimp only); (try k_fold)))
def wordlikeS (x : Str) (k : Int) : Bool := decide ((x.length : Int) = k) && Txt.isalnum (Txt.replace x (Str.ofString "_") (Str.ofString "a"))
theorem wl_t {R : Result → Shared → Prop} {s : Shared} {x : Str} {k : Int} (e : (x.length : Int) = k) (hret : R (.ok (.ret (.bool (wordlikeS x k)))) s) : R (.ok (.ret (.bool (Txt.isalnum (Txt.replace x (Str.ofString "_") (Str.ofString "a")))))) s := by
  unfold wordlikeS at hret; rw [decide_eq_true e, Bool.true_and] at hret; exact hret
theorem wl_f {R : Result → Shared → Prop} {s : Shared} {x : Str} {k : Int} (e : (x.length : Int) ≠ k) (hret : R (.ok (.ret (.bool (wordlikeS x k)))) s) : R (.ok (.ret (.bool ((x.length : Int) == k)))) s := by
  have : ((x.length : Int) == k) = false := beq_eq_false_iff_ne.mpr e
  unfold wordlikeS at hret; rw [decide_eq_false e, Bool.false_and] at hret; rw [this]; exact hret
set_option maxRecDepth 100000 in
set_option maxHeartbeats 8000000 in
theorem wordlike_spec {prog : Program} {w : World} {mean : ExcName → Option Value} {mg mb : Str → Option Value} {loose : List Str}
   {A : Around} {outer : List Env} {base : Heap} {s : Shared} {R : Result → Shared → Prop} {x : Str} {t tk : Tok} {k : Int}
   (X : (hd.heap_39 w.params).In s.heap) (T : Top hd.view_39 loose mean mg mb s.heap) (B : Below A base outer s.heap) (hh : A.handled = none) (hd : A.depth < 900) (hu : A.units < 9000)
   (hx : x.length ≤ 4096)
   (hret : ∀ h' tk', s.heap.StaysIn h' → R (.ok (.ret (.bool (wordlikeS x k)))) { s with heap := h', toks := tk' }) :
   codeAny (model prog w) A (.call (.ref 98) ⟨[.str x t, .int k tk], []⟩) R s := by
  w_top off
  obtain ⟨hd0, dp, fr, gd, un⟩ := A
  have hroom : dp < recursionLimit := Nat.lt_of_lt_of_le hd (by decide)
  k_dflt walk_at "m_enter"
  k_steps
  all_goals (rename Fr _ _ _ _ => F9; first | exact wl_t (by assumption) (hret _ _ F9.keep) | exact wl_f (by assumption) (hret _ _ F9.keep))
end Mine
end
-- Ex3
section
local macro_rules | `(tactic| walk_at "mine no such step") => `(tactic| skip)
local macro_rules | `(tactic| walk_at "mine no such step") => `(tactic| skip)
local macro_rules | `(tactic| walk_at "mine no such step") => `(tactic| skip)
local macro_rules | `(tactic| walk_at "mine no such step") => `(tactic| skip)
local macro_rules | `(tactic| walk_at "mine no such step") => `(tactic| skip)
local macro_rules | `(tactic| walk_at "mine no such step") => `(tactic| skip)
local macro_rules | `(tactic| walk_at "mine no such step") => `(tactic| skip)
local macro_rules | `(tactic| walk_at "mine no such step") => `(tactic| skip)
local macro_rules | `(tactic| walk_at "mine no such step") => `(tactic| skip)
local macro_rules | `(tactic| walk_at "mine no such step") => `(tactic| skip)
local macro_rules | `(tactic| walk_at "mine no such step") => `(tactic| skip)
local macro_rules | `(tactic| walk_at "mine no such step") => `(tactic| skip)
local macro_rules | `(tactic| walk_at "mine no such step") => `(tactic| skip)
local macro_rules | `(tactic| walk_at "mine no such step") => `(tactic| skip)
local macro_rules | `(tactic| walk_at "mine no such step") => `(tactic| skip)
local macro_rules | `(tactic| walk_at "mine no such step") => `(tactic| skip)
local macro_rules | `(tactic| walk_at "mine no such step") => `(tactic| skip)
local macro_rules | `(tactic| walk_at "mine no such step") => `(tactic| skip)
local macro_rules | `(tactic| walk_at "mine no such step") => `(tactic| skip)
local macro_rules | `(tactic| walk_at "mine no such step") => `(tactic| skip)
local macro_rules | `(tactic| walk_at "mine no such step") => `(tactic| skip)
local macro_rules | `(tactic| walk_at "mine no such step") => `(tactic| skip)
local macro_rules | `(tactic| walk_at "mine no such step") => `(tactic| skip)
local macro_rules | `(tactic| walk_at "mine no such step") => `(tactic| skip)
local macro_rules | `(tactic| walk_at "mine no such step") => `(tactic| skip)
local macro_rules | `(tactic| walk_at "mine no such step") => `(tactic| skip)
local macro_rules | `(tactic| walk_at "mine no such step") => `(tactic| skip)
local macro_rules | `(tactic| walk_at "mine no such step") => `(tactic| skip)
local macro_rules | `(tactic| walk_at "mine no such step") => `(tactic| skip)
local macro_rules | `(tactic| walk_at "mine no such step") => `(tactic| skip)
local macro_rules | `(tactic| walk_at "mine no such step") => `(tactic| skip)
local macro_rules | `(tactic| walk_at "mine no such step") => `(tactic| skip)
local macro_rules | `(tactic| walk_at "mine no such step") => `(tactic| skip)
local macro_rules | `(tactic| walk_at "mine no such step") => `(tactic| skip)
local macro_rules | `(tactic| walk_at "mine no such step") => `(tactic| skip)
local macro_rules | `(tactic| walk_at "mine no such step") => `(tactic| skip)
local macro_rules | `(tactic| walk_at "mine no such step") => `(tactic| skip)
local macro_rules | `(tactic| walk_at "mine no such step") => `(tactic| skip)
local macro_rules | `(tactic| walk_at "mine no such step") => `(tactic| skip)
local macro_rules | `(tactic| walk_at "mine no such step") => `(tactic| skip)
open PySem PySem.W PyProof.Rows
set_option maxRecDepth 100000
namespace Mine
section
variable {prog : Program} {w : World} {A : Around} {s : Shared} {K : Frag} {R : Result → Shared → Prop} {g : Heap} {news : List (Addr × Obj)}
/-- a call of a def of the text, over a part of the heap that it leaves as it is -/
theorem enterG {name qual : Str} {params : Arguments} {body : List Stmt} {scope : Scope} {clo : List (Str × Addr)} {dV kV doc pm cdv ct oc : Value} {an od : Option Addr} {osl : Array (Option Value)} {f : Addr} {args : Args} {binds : List (Str × Value)}
    (hg : g.StaysIn s.heap) (hsz : g.objs.size ≤ s.heap.objs.size) (X : K.In g) (hlim : g.NoLimit) (N : ∀ p ∈ news, s.heap.get? p.1 = some p.2 ∧ g.get? p.1 = none)
    (ho : K.lookup f = some ⟨oc, od, .func (fnX name qual params body scope clo dV kV doc pm an cdv ct), osl⟩) (hcd : codeIn K cdv qual = true) (hroom : A.depth < recursionLimit)
    (hbind : BindsTo s (fnX name qual params body scope clo dV kV doc pm an cdv ct) args binds) (hloc : ∀ y ∈ binds, scope.names.lookup y.1 = some .local)
    (h : ∀ L h₁, Fr g L h₁ (fun y => binds.reverse.lookup y) → News g L h₁ news →
      wpAny (model prog w) (A.deeper (envX qual scope L f cdv clo)) (execs body (envX qual scope L f cdv clo))
        (fun fl s' => R (.ok (.ret (match fl with | .ret v => v | _ => .none))) s')
        (fun e s' => wpAny (model prog w) (A.deeper (envX qual scope L f cdv clo)) (leaving (envX qual scope L f cdv clo) e) (fun _ s'' => R (.error e) s'') (fun e' s'' => R (.error e') s'') s')
        { s with heap := h₁, toks := s.toks + binds.length })
    (hco : scope.isCoroutine = false) (hgen : scope.isGenerator = false) (hk : scope.kind = .function)
    (hcell : ∀ x ∈ scope.names, x.2 ≠ .cell) : codeAny (model prog w) A (.call (.ref f) args) R s := by
  refine codeAny_call_def (fd := fnX name qual params body scope clo dV kV doc pm an cdv ct) (body := body) (binds := binds) hroom (hg _ _ (X _ _ ho)) rfl (hlim.keeps hg) ((codeRec_of X hcd).keeps hg) rfl hbind hcell hloc (fun h₁ hns hk₁ => ?_) hco hgen hk
  exact h s.heap.objs.size h₁ ⟨hns, fun b o e => hk₁ b o (hg b o e), hsz⟩ fun p hp => ⟨hk₁ _ _ (N p hp).1, Nat.ne_of_lt (Heap.lt_size (N p hp).1), (N p hp).2⟩
end

abbrev excObj (C t : Addr) : Obj := { cls := .ref C, data := .fields #[.ref t, .none, .none, .none, .bool false, .none] }
abbrev wrapObj (e : Addr) : Obj := { cls := .type "method-wrapper", dict := none, data := .fields #[.builtin "ValueError.__init__", .ref e], slots := #[] }

section
variable {prog : Program} {w : World} {A : Around} {E : Value → Shared → Prop} {s : Shared} {h₀ : Heap} {L : Addr} {m : Str → Option Value} {news : List (Addr × Obj)}
variable {nm q : Str} {C N : Addr} {bs bm : List Value} {hdct : Bool} {sn : List Str} {sub : List Value} {ab : Bool} {col : Option Bool} {dd : Option Addr} {k0 k1 k2 k3 k5 : Option Value} {K : Frag} {newId : String}
theorem news_push {h' : Heap} {o : Obj} (F : Fr h₀ L s.heap m) (Nw : News h₀ L s.heap news) (ho : h'.get? s.heap.objs.size = some o) (k : s.heap.StaysIn h') :
    Fr h₀ L h' m ∧ News h₀ L h' ((s.heap.objs.size, o) :: news) := let ⟨a, b, _⟩ := ks_newsPush F Nw rfl ho k; ⟨a, b⟩
theorem super_exc_N {D e tt : Addr} {cdD : ClassData} {Q : Value → Shared → Prop} (X : K.In s.heap) (F : Fr h₀ L s.heap m) (Nw : News h₀ L s.heap news) (he : s.heap.get? e = some (excObj C tt)) (hD : clsIn K D = some cdD) (hsub : mroIn K C (.ref D) = some true)
    (h : ∀ so h', Fr h₀ L h' m → News h₀ L h' ((so, ks_superObj D e C) :: news) → Q (.ref so) { s with heap := h' }) :
    wpAny (model prog w) A (call (.type "super") [.ref D, .ref e]) Q E s := by
  obtain ⟨hh, g, d, t, os⟩ := s
  obtain ⟨oD, hD1, hD2⟩ : ∃ oD, hh.get? D = some oD ∧ oD.data = .cls cdD := by
    unfold clsIn at hD
    split at hD
    · rename_i c d cd' sl ho
      cases hD
      exact ⟨_, X _ _ ho, rfl⟩
    · cases hD
  refine ks_wpAny_call_super hD1 hD2 he rfl (fun c e => by cases e) (looks_mroIn X hsub) fun h' e k => ?_
  obtain ⟨F', N'⟩ := news_push (s := ⟨hh, g, d, t, os⟩) F Nw e k
  exact h _ _ F' N'
theorem super_init_N (T : ExcLine bm) {so D e tt : Addr} {l : List Value} {pl : Sem Bool} {Q : Value × List Value → Shared → Prop} (X : K.In s.heap) (F : Fr h₀ L s.heap m) (Nw : News h₀ L s.heap news)
    (hC : s.heap.get? C = some (excClassObj nm q C N bs bm hdct sn sub ab col dd k0 k1 k2 k3 k5 newId)) (he : s.heap.get? e = some (excObj C tt)) (hso : (so, ks_superObj D e C) ∈ news)
    (hno : nsIn K cStatics "thirdparty.any" = some none) (hl : ((.ref C :: bm).dropWhile (· != .ref D)).drop 1 = l) (hf : alongIn K "__init__" l = some (some (.builtin "ValueError.__init__")))
    (h : ∀ b h' tk, Fr h₀ L h' m → News h₀ L h' ((b, wrapObj e) :: news) → Q (.ref b, []) { s with heap := h', toks := tk }) :
    wpAny (model prog w) A (getMethod (.ref so) "__init__" pl) Q E s := by
  obtain ⟨hh, g, d, t, os⟩ := s
  have hxC : e ≠ C := fun q => by subst q; rw [he] at hC; cases hC
  refine super_init_method T hC he rfl (Nw _ hso).1 (looks_opaque X hno) hl X hf hxC ?_
  obtain ⟨F', N'⟩ := news_push (s := ⟨hh, g, d, t, os⟩) (o := wrapObj e) F Nw (Heap.get?_push_at rfl rfl) (fun b o e => Heap.get?_push_of_some _ e)
  exact h _ _ _ F' N'

theorem keeper_wrap {b e : Addr} {Q : Keeper → Shared → Prop} (hb : s.heap.get? b = some (wrapObj e)) (h : Q .machine s) : wpAny (model prog w) A (keeperOf (.ref b)) Q E s := by
  unfold keeperOf
  refine wpAny_bind (wpAny_load hb ?_)
  exact wpAny_pure h

theorem wrap_keeps {b e : Addr} (h : Heap) (X : h.get? b = some (wrapObj e)) : ∃ k, (k = Keeper.frame ∨ k = Keeper.machine ∨ k = Keeper.boundFrame) ∧ Looks (model prog w) h (keeperOf (.ref b)) k :=
  ⟨.machine, .inr (.inl rfl), (Looks.ld (part := none) X).andThen .now⟩
theorem callWith_wrap {env : Env} {pos : Pos} {b e : Addr} {first : List Value} {ex : Expr} {rest : List Expr} {Q : Value → Shared → Prop} (_Nw : News h₀ L s.heap news) (_hb : (b, wrapObj e) ∈ news)
    (h : wpAny (model prog w) A (spliced (backTo pos (starEach (ex :: rest) env))) (fun vs s₁ => s₁.heap.get? b = some (wrapObj e) ∧ wpAny (model prog w) A (call (.ref b) (first ++ vs)) Q E s₁) E s)
    (he : starEach (ex :: rest) env = (false, eval ex env) :: starEach rest env := by rfl) (hplain : (backTo pos (starEach rest env)).any (·.1) = false := by rfl) :
    wpAny (model prog w) A (callWith pos (.ref b) first (backTo pos (starEach (ex :: rest) env)) []) Q E s := by
  rw [he] at h ⊢
  exact callWith_of (P := fun h => h.get? b = some (wrapObj e)) (by show ((false || (backTo pos (starEach rest env)).any (·.1)) || false) = false; rw [hplain]; rfl) (wrap_keeps (prog := prog) (w := w)) (PySem.Calls.evalArgs_plain h)
theorem wrap_call_N {e b tt : Addr} {v : Value} {Q : Value → Shared → Prop} (T : ExcLine bm) (F : Fr h₀ L s.heap m) (hC : s.heap.get? C = some (excClassObj nm q C N bs bm hdct sn sub ab col dd k0 k1 k2 k3 k5 newId))
    (Nw : News h₀ L s.heap news) (he : (e, excObj C tt) ∈ news) (hb : (b, wrapObj e) ∈ news)
    (h : ∀ h' t', Fr h₀ L h' m → (∀ y o, y ≠ e → s.heap.get? y = some o → h'.get? y = some o) → h'.get? e = some (excObj C t') → Q .none { s with heap := h' }) :
    wpAny (model prog w) A (call (.ref b) [v]) Q E s := by
  obtain ⟨hh, g, d, t, os⟩ := s
  refine call_bound_vinit T hC (Nw _ he).1 (Nw _ hb).1 fun h' k he' _ => h h' _ ?_ k he'
  obtain ⟨oL, es, ep, hL, r⟩ := F.ns
  exact ⟨⟨oL, es, ep, k L oL (Ne.symm (Nw _ he).2.1) hL, r⟩, fun b o e' => k b o (fun q => by rw [q, (Nw _ he).2.2] at e'; cases e') (F.keep b o e'), F.above⟩
end

section
variable {prog : Program} {w : World} {mean : ExcName → Option Value} {mg mb : Str → Option Value} {loose : List Str}
   {A : Around} {outer : List Env} {base g : Heap} {s : Shared} {R : Result → Shared → Prop}
variable {nm q : Str} {C N : Addr} {bs bm : List Value} {hdct : Bool} {sn : List Str} {sub : List Value} {ab : Bool} {col : Option Bool} {dd : Option Addr} {k0 k1 k2 k3 k5 : Option Value} {newId : String}
local macro_rules | `(tactic| walk_at "eval Name") => `(tactic| (k_here; (with_reducible show wpAny _ _ (eval (Expr.Name (Str.ofString "super") _) _) _ _ _); with_unfolding_all (refine' nameX_B (v := .type "super") ?k1 ?k2 ?k3 ?k4 (by decide +kernel) (by decide +kernel) ?_; (case k1 => k_asm); (case k2 => k_asm); (case k3 => exact topRead_of (by assumption)); (case k4 => k_is))))
local macro_rules | `(tactic| walk_at "call type:super") => `(tactic| (k_here; k_dflt (refine' super_exc_N ?k1 ?k2 ?k3 ?k4 ?k5 ?k6 ?_; (case k1 => k_in); (case k2 => k_asm); (case k3 => k_asm); (case k4 => exact News.get (by k_asm) (by k_mem)); (case k5 => k_is); (case k6 => assumption); k_whole); intro so' h' F' N'))
local macro_rules | `(tactic| walk_at "getMethod ref") => `(tactic| (k_here; k_dflt (refine' super_init_N ?k0 ?k1 ?k2 ?k3 ?k4 ?k5 ?k6 ?k7 ?k8 ?k9 ?_; (case k0 => assumption); (case k1 => k_in); (case k2 => k_asm); (case k3 => k_asm); (case k4 => exact Fr.keep (by k_asm) _ _ (by assumption)); (case k5 => exact News.get (by k_asm) (by k_mem)); (case k6 => k_mem); (case k7 => k_is); (case k8 => assumption); (case k9 => assumption); k_whole); intro b' h' tk' F' N'))
local macro_rules | `(tactic| walk_at "callWith ref") => `(tactic| (k_here; k_dflt (refine' callWith_wrap ?k1 ?k2 ?_; (case k1 => k_asm); (case k2 => k_mem); k_whole)))
local macro_rules | `(tactic| walk_at "And") => `(tactic| (with_reducible show (Heap.get? _ _ = some (wrapObj _)) ∧ _; refine And.intro (News.get (by k_asm) (by k_mem)) ?_))
local macro_rules | `(tactic| walk_at "call ref") => `(tactic| (k_here; k_dflt (refine' wrap_call_N ?k0 ?k1 ?k2 ?k3 ?k4 ?k5 ?_; (case k0 => assumption); (case k1 => k_asm); (case k2 => exact Fr.keep (by k_asm) _ _ (by assumption)); (case k3 => k_asm); (case k4 => k_mem); (case k5 => k_mem); k_whole); intro h' t' F' k' e'))
set_option maxHeartbeats 8000000 in
theorem perr_init {l : List Value} {e tt : Addr} {v1 v2 : Value} (T' : ExcLine bm) (hg : g.StaysIn s.heap) (hsz : g.objs.size ≤ s.heap.objs.size)
   (X : (hd.heap_39 w.params).In g) (T : Top hd.view_39 loose mean mg mb g) (hh : A.handled = none) (hdp : A.depth < 900) (hu : A.units < 9000)
   (he : s.heap.get? e = some (excObj C tt)) (hge : g.get? e = none) (hC : g.get? C = some (excClassObj nm q C N bs bm hdct sn sub ab col dd k0 k1 k2 k3 k5 newId))
   (hl : ((.ref C :: bm).dropWhile (· != .ref 64)).drop 1 = l) (hf : alongIn (hd.heap_39 w.params) "__init__" l = some (some (.builtin "ValueError.__init__"))) (hsub : mroIn (hd.heap_39 w.params) C (.ref 64) = some true)
   (hret : ∀ h' tk' t', g.StaysIn h' → h'.get? e = some (excObj C t') → R (.ok (.ret .none)) { s with heap := h', toks := tk' }) :
   codeAny (model prog w) A (.call (.ref 61) ⟨[.ref e, v1, v2], []⟩) R s := by
  w_top off
  obtain ⟨hd0, dp, fr, gd, un⟩ := A
  obtain rfl : hd0 = none := hh
  replace hdp : dp < 900 := hdp
  replace hu : un < 9000 := hu
  have hroom : dp < recursionLimit := Nat.lt_of_lt_of_le hdp (by decide)
  k_dflt (refine' enterG hg hsz ?k1 ?k2 (news := [(e, excObj C tt)]) ?kN ?k6 ?k7 ?k8 ?k9 ?kB ?_ ?c2 ?c3 ?c4 ?c5; (case k1 => assumption); (case k2 => exact Top.nolimit (by assumption)); (case kN => intro p hp; rw [List.mem_singleton.mp hp]; exact ⟨he, hge⟩); (case k6 => k_is); (case k7 => k_is); (case k8 => assumption); (case k9 => exact BindsTo.of_eq rfl); (case c5 => decide); (case kB => exact locs rfl); (case c2 => exact rfl); (case c3 => exact rfl); (case c4 => exact rfl); k_whole)
  intro L h1 F Nw
  dsimp only
  generalize s.toks + _ = tk0
  replace F : Fr g L h1 (fun y => List.lookup y [(Str.ofString "data", v2), (Str.ofString "message", v1), (Str.ofString "self", .ref e)]) := F
  clear he hsz hg
  have TR := topRead_of T
  k_steps
  · exact News.get (by k_asm) (by k_mem)
  · rename Fr _ _ _ _ => F9
    exact hret _ _ _ F9.keep (by assumption)
end

section
variable {prog : Program} {w : World} {mean : ExcName → Option Value} {mg mb : Str → Option Value} {loose : List Str}
   {A : Around} {E : Value → Shared → Prop} {s : Shared} {Q : Value → Shared → Prop}
variable {nm q : Str} {C N : Addr} {bs bm : List Value} {hdct : Bool} {sn : List Str} {sub : List Value} {ab : Bool} {col : Option Bool} {dd : Option Addr} {k0 k1 k2 k3 k5 : Option Value}
theorem make_err {l : List Value} {v1 v2 : Value} (T' : ExcLine bm) 
   (X : (hd.heap_39 w.params).In s.heap) (T : Top hd.view_39 loose mean mg mb s.heap) (hh : A.handled = none) (hdp : A.depth < 890) (hu : A.units < 8990)
   (hC : s.heap.get? C = some (excClassObj nm q C N bs bm hdct sn sub ab col dd k0 k1 k2 k3 k5 "ValueError.__new__"))
   (hi : findIn (hd.heap_39 w.params) (.ref C) "__init__" = some (some (.ref 61))) (hfn : typeIn (hd.heap_39 w.params) (.ref 61) = some (.type "function"))
   (hl : ((.ref C :: bm).dropWhile (· != .ref 64)).drop 1 = l) (hf : alongIn (hd.heap_39 w.params) "__init__" l = some (some (.builtin "ValueError.__init__"))) (hsub : mroIn (hd.heap_39 w.params) C (.ref 64) = some true)
   (h : ∀ h' tk' e t', s.heap.StaysIn h' → s.heap.get? e = none → h'.get? e = some (excObj C t') → Q (.ref e) { s with heap := h', toks := tk' }) :
   wpAny (model prog w) A (call (.ref C) [v1, v2]) Q E s := by
  obtain ⟨hh', g, d, t, os⟩ := s
  refine call_own_exc T' X hC hi hfn fun h' e M => ?_
  obtain ⟨tt, he, _, _⟩ := M.there
  have kg : hh'.StaysIn (hideAll h' [e]) := fun b o q => hideAll_get _ (M.keeps b o q) fun hm => by
    rw [List.mem_singleton.mp hm, M.new] at q; cases q
  refine wpAny_call (perr_init (g := hideAll h' [e]) T' (fun b o q => of_hideAll _ q) (Nat.le_of_eq (hideAll_size _ _)) (X.keeps kg) (T.keeps kg) hh ?_ ?_ he (hideAll_none _ (List.mem_singleton.mpr rfl)) (kg _ _ hC) hl hf hsub
    fun h'' tk' t' k e' => ⟨rfl, h h'' tk' e t' (fun b o q => k b o (kg b o q)) M.new e'⟩)
  · show A.depth + 1 < 900; omega
  · show A.units + 1 < 9000; omega
theorem excLine_64 : ExcLine [.type "ValueError", .type "Exception", .type "BaseException", .type "object"] := ⟨by decide +kernel, by decide +kernel, by decide +kernel, by decide +kernel⟩
theorem excLine_sub : ExcLine [.ref 64, .type "ValueError", .type "Exception", .type "BaseException", .type "object"] := ⟨by decide +kernel, by decide +kernel, by decide +kernel, by decide +kernel⟩
theorem along_vi {K : Frag} : alongIn K "__init__" [.type "ValueError", .type "Exception", .type "BaseException", .type "object"] = some (some (.builtin "ValueError.__init__")) := by
  unfold alongIn; kernel_rfl
/-- the three classes of errors: an instance, made -/
theorem make_64 {v1 v2 : Value} (X : (hd.heap_39 w.params).In s.heap) (T : Top hd.view_39 loose mean mg mb s.heap) (hh : A.handled = none) (hdp : A.depth < 890) (hu : A.units < 8990)
   (h : ∀ h' tk' e t', s.heap.StaysIn h' → s.heap.get? e = none → h'.get? e = some (excObj 64 t') → Q (.ref e) { s with heap := h', toks := tk' }) :
   wpAny (model prog w) A (call (.ref 64) [v1, v2]) Q E s := by
  w_top off
  have X' := X
  refine make_err excLine_64 X T hh hdp hu (X' _ _ (by k_is)) (by k_is) (by k_is) rfl along_vi (by k_is) h
theorem make_77 {v1 v2 : Value} (X : (hd.heap_39 w.params).In s.heap) (T : Top hd.view_39 loose mean mg mb s.heap) (hh : A.handled = none) (hdp : A.depth < 890) (hu : A.units < 8990)
   (h : ∀ h' tk' e t', s.heap.StaysIn h' → s.heap.get? e = none → h'.get? e = some (excObj 77 t') → Q (.ref e) { s with heap := h', toks := tk' }) :
   wpAny (model prog w) A (call (.ref 77) [v1, v2]) Q E s := by
  w_top off
  have X' := X
  refine make_err excLine_sub X T hh hdp hu (X' _ _ (by k_is)) (by k_is) (by k_is) rfl along_vi (by k_is) h
theorem make_89 {v1 v2 : Value} (X : (hd.heap_39 w.params).In s.heap) (T : Top hd.view_39 loose mean mg mb s.heap) (hh : A.handled = none) (hdp : A.depth < 890) (hu : A.units < 8990)
   (h : ∀ h' tk' e t', s.heap.StaysIn h' → s.heap.get? e = none → h'.get? e = some (excObj 89 t') → Q (.ref e) { s with heap := h', toks := tk' }) :
   wpAny (model prog w) A (call (.ref 89) [v1, v2]) Q E s := by
  w_top off
  have X' := X
  refine make_err excLine_sub X T hh hdp hu (X' _ _ (by k_is)) (by k_is) (by k_is) rfl along_vi (by k_is) h
end
end Mine
end
-- Ex4
section
open PySem PySem.W PyProof.Rows
set_option maxRecDepth 100000
namespace Mine
theorem news_stay {h₀ h h' : Heap} {L : Addr} {news : List (Addr × Obj)} (N : News h₀ L h news) (k : h.StaysIn h') : News h₀ L h' news :=
  fun p hp => ⟨k _ _ (N p hp).1, (N p hp).2⟩
theorem fr_stay {h₀ h h' : Heap} {L : Addr} {m : Str → Option Value} (F : Fr h₀ L h m) (k : h.StaysIn h') : Fr h₀ L h' m :=
  ⟨F.ns.keeps k, fun b o e => k b o (F.keep b o e), F.above⟩
def Thrown (K : Frag) (C : Addr) (E : Value → Shared → Prop) (v : Value) (s : Shared) : Prop :=
  ∃ e t, v = .ref e ∧ K.In s.heap ∧ s.heap.get? e = some (excObj C t) ∧ E (.ref e) s
section
variable {prog : Program} {w : World} {A : Around} {E : Value → Shared → Prop} {s : Shared} {env : Env} {K : Frag}
variable {nm q : Str} {C N : Addr} {bs bm : List Value} {hdct : Bool} {sn : List Str} {sub : List Value} {ab : Bool} {col : Option Bool} {dd : Option Addr} {k0 k1 k2 k3 k5 : Option Value} {newId : String}
theorem exec_raise_own {ex : Expr} {pos : Pos} {Q : Flow → Shared → Prop} (T : ExcLine bm) (hC : K.lookup C = some (excClassObj nm q C N bs bm hdct sn sub ab col dd k0 k1 k2 k3 k5 newId)) (hh : A.handled = none)
    (h : wpAny (model prog w) A (eval ex env) (Thrown K C E) E s) : wpAny (model prog w) A (exec (.Raise (some ex) none pos) env) Q E s := by
  show wpAny _ _ (standAt pos >>= fun _ => raiseStmt env ((evalOpt (some ex) env).map fun x => do let v ← x; standAt pos; pure v) ((evalOpt none env).map fun c => do let v ← c; standAt pos; pure v)) _ _ _
  simp only [evalOpt, Option.map]
  refine wpAny_bind (wpAny_standAt (wpAny_raiseStmt_made_sub (C := C) (nm := nm) (q := q) (N := N) (bs := bs) (bm := bm) (hdct := hdct) (sn := sn) (sub := sub) (ab := ab) (col := col) (dd := dd) (k0 := k0) (k1 := k1) (k2 := k2) (k3 := k3) (k5 := k5) (newId := newId) T.hasBase hh ?_))
  refine wpAny_bind (wpAny_mono h (fun v s₁ h₁ => wpAny_bind (wpAny_standAt (wpAny_pure ?_))) fun _ _ x => x)
  obtain ⟨e, t, rfl, X, he, hE⟩ := h₁
  exact ⟨e, t, rfl, X _ _ hC, he, hE⟩
end
section
variable {M : Model} {A : Around} {E : Value → Shared → Prop} {s' : Shared} {base h₀ h : Heap} {outer : List Env} {L a e t C : Addr} {m : Str → Option Value} {env : Env} {Q : Unit → Shared → Prop}
/-- an own exception that is on its way up, past the frames in l -/
def Fly (base : Heap) (l : List Env) (e C : Addr) (h : Heap) : Prop := ∃ a0, Heap.FlyingW base l e (.ref C) a0 h
theorem leave_exc (B : Below A base outer h₀) (F : Fr h₀ L h m) (k : h.StaysIn s'.heap) (hnew : h.get? e = none) (he : s'.heap.get? e = some (excObj C t)) (hf : env.frame = some L) (hk : env.scope.kind = .function)
    (hQ : ∀ h', Fly base outer e C h' → s'.heap.UpToSlots h' → Q () { s' with heap := h' }) : wpAny M (A.deeper env) (leaving env (.ref e)) Q E s' := by
  have B' := pushX B F hf hk
  refine wpAny_leaving_firstW (a0 := .ref t) B'.stack (B'.frames.of_keeps fun b o q _ => ⟨o, k b o q, rfl⟩) hf he (fun b o q => k b o (B'.stays b o q)) ?_ rfl rfl rfl fun h' hl => ?_
  · cases q : base.get? e with
    | none => rfl
    | some o => have := B'.stays e o q; rw [hnew] at this; cases this
  · obtain ⟨k1, ⟨_, _, k2⟩, k3, k4⟩ := hl
    refine hQ h' ⟨_, k1, ?_, k2, k3⟩ k4
    cases q : base.get? e with
    | none => rfl
    | some o => have := B'.stays e o q; rw [hnew] at this; cases this
end
section
variable {prog : Program} {w : World} {A : Around} {E : Value → Shared → Prop} {s : Shared} {d : Addr} {x : Str} {t : Tok}
/-- the table of kinds, by what it gives -/
def kindsF (lean : Bool) (k : Str) : Option Value :=
  if k = Str.ofString "WPL" then some (.ref 310) else if lean = false ∧ k = Str.ofString "TXT" then some (.ref 292) else none
theorem kinds_get1 {f : Str → Option Value} {Q : Value → Shared → Prop} (hd : (d == sysModules) = false) (hm : s.heap.MapOf (strKind prog w) d f) (h : Q ((f x).getD .none) { s with toks := s.toks + 1 }) :
    wpAny (model prog w) A (call (.builtin "dict.get") [.ref d, .str x t]) Q E s :=
  call_meetsIn PySem.F.slot_dict_get hm.typeIs PySem.F.entry_dict_get (PySem.F.args_dict_get_2 _ _) (meets_dict_get (strKind prog w) d (strKind_is prog w x t) hd) ⟨_, hm, h⟩
theorem kinds_get2 {f : Str → Option Value} {v : Value} {Q : Value → Shared → Prop} (hd : (d == sysModules) = false) (hm : s.heap.MapOf (strKind prog w) d f) (h : Q ((f x).getD v) { s with toks := s.toks + 1 }) :
    wpAny (model prog w) A (call (.builtin "dict.get") [.ref d, .str x t, v]) Q E s :=
  call_meetsIn PySem.F.slot_dict_get hm.typeIs PySem.F.entry_dict_get (PySem.F.args_dict_get_3 _ _ _) (meets_dict_get_default (strKind prog w) d (strKind_is prog w x t) hd v) ⟨_, hm, h⟩
theorem kinds_method {f : Str → Option Value} {pl : Sem Bool} {Q : Value × List Value → Shared → Prop} (hm : s.heap.MapOf (strKind prog w) d f) (h : Q (.builtin "dict.get", [.ref d]) s) :
    wpAny (model prog w) A (getMethod (.ref d) "get" pl) Q E s :=
  getMethod_builtin hm.typeIs PySem.F.plainAttrs_dict PySem.F.slot_dict_get (by rw [PySem.F.type_dict_get]) hm.noDict h
end
end Mine
end
-- Cut
section
local macro_rules | `(tactic| walk_at "mine no such step") => `(tactic| skip)
local macro_rules | `(tactic| walk_at "mine no such step") => `(tactic| skip)
local macro_rules | `(tactic| walk_at "mine no such step") => `(tactic| skip)
local macro_rules | `(tactic| walk_at "mine no such step") => `(tactic| skip)
local macro_rules | `(tactic| walk_at "mine no such step") => `(tactic| skip)
local macro_rules | `(tactic| walk_at "mine no such step") => `(tactic| skip)
local macro_rules | `(tactic| walk_at "mine no such step") => `(tactic| skip)
local macro_rules | `(tactic| walk_at "mine no such step") => `(tactic| skip)
local macro_rules | `(tactic| walk_at "mine no such step") => `(tactic| skip)
local macro_rules | `(tactic| walk_at "mine no such step") => `(tactic| skip)
local macro_rules | `(tactic| walk_at "mine no such step") => `(tactic| skip)
local macro_rules | `(tactic| walk_at "mine no such step") => `(tactic| skip)
local macro_rules | `(tactic| walk_at "mine no such step") => `(tactic| skip)
local macro_rules | `(tactic| walk_at "mine no such step") => `(tactic| skip)
local macro_rules | `(tactic| walk_at "mine no such step") => `(tactic| skip)
local macro_rules | `(tactic| walk_at "mine no such step") => `(tactic| skip)
local macro_rules | `(tactic| walk_at "mine no such step") => `(tactic| skip)
local macro_rules | `(tactic| walk_at "mine no such step") => `(tactic| skip)
local macro_rules | `(tactic| walk_at "mine no such step") => `(tactic| skip)
local macro_rules | `(tactic| walk_at "mine no such step") => `(tactic| skip)
local macro_rules | `(tactic| walk_at "mine no such step") => `(tactic| skip)
local macro_rules | `(tactic| walk_at "mine no such step") => `(tactic| skip)
local macro_rules | `(tactic| walk_at "mine no such step") => `(tactic| skip)
local macro_rules | `(tactic| walk_at "mine no such step") => `(tactic| skip)
local macro_rules | `(tactic| walk_at "mine no such step") => `(tactic| skip)
local macro_rules | `(tactic| walk_at "mine no such step") => `(tactic| skip)
local macro_rules | `(tactic| walk_at "mine no such step") => `(tactic| skip)
local macro_rules | `(tactic| walk_at "mine no such step") => `(tactic| skip)
local macro_rules | `(tactic| walk_at "mine no such step") => `(tactic| skip)
local macro_rules | `(tactic| walk_at "mine no such step") => `(tactic| skip)
local macro_rules | `(tactic| walk_at "mine no such step") => `(tactic| skip)
local macro_rules | `(tactic| walk_at "mine no such step") => `(tactic| skip)
local macro_rules | `(tactic| walk_at "mine no such step") => `(tactic| skip)
local macro_rules | `(tactic| walk_at "mine no such step") => `(tactic| skip)
local macro_rules | `(tactic| walk_at "mine no such step") => `(tactic| skip)
local macro_rules | `(tactic| walk_at "mine no such step") => `(tactic| skip)
local macro_rules | `(tactic| walk_at "mine no such step") => `(tactic| skip)
local macro_rules | `(tactic| walk_at "mine no such step") => `(tactic| skip)
local macro_rules | `(tactic| walk_at "mine no such step") => `(tactic| skip)
local macro_rules | `(tactic| walk_at "mine no such step") => `(tactic| skip)
open PySem PySem.W PyProof.Rows
namespace Mine
theorem fr_congr {h₀ h : Heap} {L : Addr} {m m' : Str → Option Value} (F : Fr h₀ L h m) (e : ∀ y, m y = m' y) : Fr h₀ L h m' :=
  (funext e : m = m') ▸ F
def Nxt (P : Shared → Prop) (f : Flow) (s' : Shared) : Prop := f = .next ∧ P s'
theorem cut {M : Model} {A : Around} {E : Value → Shared → Prop} {s : Shared} {env : Env} {st : Stmt} {rest : List Stmt} {Q : Flow → Shared → Prop} (P : Shared → Prop)
    (h1 : wpAny M A (exec st env) (Nxt P) E s) (h2 : ∀ s', P s' → wpAny M A (execs rest env) Q E s') : wpAny M A (execs (st :: rest) env) Q E s :=
  wpAny_execs_cons (wpAny_mono h1 (fun f s' ⟨e, p⟩ => by subst e; exact h2 s' p) fun _ _ x => x)
theorem cut_name {prog : Program} {w : World} {A : Around} {E : Value → Shared → Prop} {s : Shared} {env : Env} {st : Stmt} {rest : List Stmt} {Q : Flow → Shared → Prop} {h₀ : Heap} {L : Addr} {m : Str → Option Value} {news : List (Addr × Obj)}
    (_F : Fr h₀ L s.heap m) (_N : News h₀ L s.heap news) (x : Str) (v : Tok → Value)
    (h1 : wpAny (model prog w) A (exec st env) (Nxt fun s' => ∃ h' tk' t', s' = { s with heap := h', toks := tk' } ∧ Fr h₀ L h' (fun y => if y = x then some (v t') else m y) ∧ News h₀ L h' news) E s)
    (h2 : ∀ h' tk' t', Fr h₀ L h' (fun y => if y = x then some (v t') else m y) → News h₀ L h' news → wpAny (model prog w) A (execs rest env) Q E { s with heap := h', toks := tk' }) : wpAny (model prog w) A (execs (st :: rest) env) Q E s :=
  wpAny_execs_cons (wpAny_mono h1 (fun f s' ⟨e, h', tk', t', es, F', N'⟩ => by subst e; subst es; exact h2 h' tk' t' F' N') fun _ _ x => x)
theorem cut_two {prog : Program} {w : World} {A : Around} {E : Value → Shared → Prop} {s : Shared} {env : Env} {st : Stmt} {rest : List Stmt} {Q : Flow → Shared → Prop} {h₀ : Heap} {L : Addr} {m : Str → Option Value} {news : List (Addr × Obj)}
    (_F : Fr h₀ L s.heap m) (_N : News h₀ L s.heap news) (x1 x2 : Str) (P : Prop)
    (h1 : wpAny (model prog w) A (exec st env) (Nxt fun s' => ∃ h' tk' o1 o2, s' = { s with heap := h', toks := tk' } ∧ Fr h₀ L h' (fun y => if y = x2 then o2 else if y = x1 then o1 else m y) ∧ News h₀ L h' news ∧ P) E s)
    (h2 : ∀ h' tk' o1 o2, Fr h₀ L h' (fun y => if y = x2 then o2 else if y = x1 then o1 else m y) → News h₀ L h' news → P → wpAny (model prog w) A (execs rest env) Q E { s with heap := h', toks := tk' }) : wpAny (model prog w) A (execs (st :: rest) env) Q E s :=
  wpAny_execs_cons (wpAny_mono h1 (fun f s' ⟨e, h', tk', o1, o2, es, F', N', p⟩ => by subst e; subst es; exact h2 h' tk' o1 o2 F' N' p) fun _ _ x => x)
theorem two_same {h₀ h : Heap} {L : Addr} {m : Str → Option Value} {x1 x2 : Str} (F : Fr h₀ L h m) : Fr h₀ L h (fun y => if y = x2 then m x2 else if y = x1 then m x1 else m y) :=
  fr_congr F fun y => by
    show _ = if y = x2 then _ else _
    split
    · subst_vars; rfl
    · split
      · subst_vars; rfl
      · rfl
theorem fr_same {h₀ h : Heap} {L : Addr} {m : Str → Option Value} {x : Str} {v : Value} (F : Fr h₀ L h m) (e : m x = some v) : Fr h₀ L h (fun y => if y = x then some v else m y) :=
  fr_congr F fun y => by by_cases q : y = x <;> simp [q, e]
theorem nxt1 {s₀ : Shared} {h₀ h : Heap} {L : Addr} {m : Str → Option Value} {x : Str} {v : Tok → Value} {t : Tok} {tk : Nat} (F : Fr h₀ L h (fun y => if y = x then some (v t) else m y)) :
    Nxt (fun s' => ∃ h' tk' t', s' = { s₀ with heap := h', toks := tk' } ∧ Fr h₀ L h' (fun y => if y = x then some (v t') else m y) ∧ News h₀ L h' []) .next { s₀ with heap := h, toks := tk } :=
  ⟨rfl, h, tk, t, rfl, F, fun _ hp => nomatch hp⟩
theorem nxt1s {s₀ : Shared} {h₀ h : Heap} {L : Addr} {m : Str → Option Value} {x : Str} {v : Tok → Value} {t : Tok} {tk : Nat} (F : Fr h₀ L h m) (e : m x = some (v t)) :
    Nxt (fun s' => ∃ h' tk' t', s' = { s₀ with heap := h', toks := tk' } ∧ Fr h₀ L h' (fun y => if y = x then some (v t') else m y) ∧ News h₀ L h' []) .next { s₀ with heap := h, toks := tk } :=
  nxt1 (fr_same F e)
theorem fr_twice {h₀ h : Heap} {L : Addr} {m : Str → Option Value} {x : Str} {v v' : Value} (F : Fr h₀ L h (fun y => if y = x then some v else (fun y => if y = x then some v' else m y) y)) : Fr h₀ L h (fun y => if y = x then some v else m y) :=
  fr_congr F fun y => by by_cases q : y = x <;> simp [q]
theorem up_stay {h0 h1 h2 h3 : Heap} (k : h0.StaysIn h1) (k' : h1.StaysIn h2) (u : h2.UpToSlots h3) : h0.UpToSlots h3 := fun b o e => u b o (k' b o (k b o e))
end Mine
namespace Mine
def NxtR (P : Shared → Prop) (Q : Flow → Shared → Prop) (f : Flow) (s' : Shared) : Prop := (f = .next ∧ P s') ∨ (f ≠ .next ∧ Q f s')
theorem cutR {M : Model} {A : Around} {E : Value → Shared → Prop} {s : Shared} {env : Env} {st : Stmt} {rest : List Stmt} {Q : Flow → Shared → Prop} (P : Shared → Prop)
    (h1 : wpAny M A (exec st env) (NxtR P Q) E s) (h2 : ∀ s', P s' → wpAny M A (execs rest env) Q E s') : wpAny M A (execs (st :: rest) env) Q E s :=
  wpAny_execs_cons (wpAny_mono h1 (fun f s' h => by
    rcases h with ⟨e, p⟩ | ⟨e, q⟩
    · subst e; exact h2 s' p
    · cases f <;> first | exact q | exact absurd rfl e) fun _ _ x => x)
theorem NxtR.ret {P : Shared → Prop} {Q : Flow → Shared → Prop} {v : Value} {s' : Shared} (h : Q (.ret v) s') : NxtR P Q (.ret v) s' := .inr ⟨nofun, h⟩
theorem NxtR.go {P : Shared → Prop} {Q : Flow → Shared → Prop} {s' : Shared} (h : P s') : NxtR P Q .next s' := .inl ⟨rfl, h⟩
end Mine
namespace Mine
theorem cut_if {prog : Program} {w : World} {A : Around} {E : Value → Shared → Prop} {s : Shared} {env : Env} {st : Stmt} {rest : List Stmt} {Q : Flow → Shared → Prop} {h₀ : Heap} {L : Addr} {m : Str → Option Value} {news : List (Addr × Obj)}
    (_F : Fr h₀ L s.heap m) (_N : News h₀ L s.heap news) (P : Prop)
    (h1 : wpAny (model prog w) A (exec st env) (NxtR (fun s' => ∃ h' tk', s' = { s with heap := h', toks := tk' } ∧ Fr h₀ L h' m ∧ News h₀ L h' news ∧ P) Q) E s)
    (h2 : ∀ h' tk', Fr h₀ L h' m → News h₀ L h' news → P → wpAny (model prog w) A (execs rest env) Q E { s with heap := h', toks := tk' }) : wpAny (model prog w) A (execs (st :: rest) env) Q E s :=
  cutR _ h1 fun s' ⟨h', tk', e, F', N', p⟩ => by subst e; exact h2 h' tk' F' N' p
end Mine
end
-- In
section
open PySem PySem.W PyProof.Rows
set_option maxRecDepth 100000
set_option linter.unusedVariables false
namespace Mine
abbrev ent (P : Params) (k : Str) (t : Tok) (v : Value) : DictEntry := { hash := PyData.keyHash P k, key := .str k t, val := v }
abbrev listObj (vs : List Value) : Obj := { cls := .type "list", data := .seq vs.toArray }
section
variable {prog : Program} {w : World} {mean : ExcName → Option Value} {mg mb : Str → Option Value} {loose : List Str}
   {A : Around} {outer : List Env} {base g : Heap} {s : Shared} {R : Result → Shared → Prop}
end
theorem news_fresh {h₀ h : Heap} {L a : Addr} {o : Obj} {news : List (Addr × Obj)} (N : News h₀ L h news) (m : (a, o) ∈ news) : h₀.get? a = none := (N _ m).2.2
section
variable {prog : Program} {w : World} {mean : ExcName → Option Value} {mg mb : Str → Option Value} {loose : List Str}
   {A : Around} {outer : List Env} {base g : Heap} {s : Shared} {R : Result → Shared → Prop}
set_option maxHeartbeats 8000000 in
theorem init_talker {C x d l : Addr} {n1 n2 : Str} {t1 t2 : Tok} {vs : List Value} (hg : g.StaysIn s.heap) (hsz : g.objs.size ≤ s.heap.objs.size)
   (X : (hd.heap_39 w.params).In g) (T : Top hd.view_39 loose mean mg mb g) (hh : A.handled = none) (hdp : A.depth < 890) (hu : A.units < 8990)
   (hC : C = 310 ∨ C = 292) (hvs : vs.length ≤ 8192)
   (hx : s.heap.get? x = some (instObj C d)) (hxd : s.heap.get? d = some (dictOf [] 0)) (hl : s.heap.get? l = some (listObj vs))
   (gx : g.get? x = none) (gd : g.get? d = none) (gl : g.get? l = none) (dx : @LT.lt Nat _ d x) (ld : @LT.lt Nat _ l d)
   (hret : ∀ h' tk' l2 c k1 k2 k3, g.StaysIn h' → g.get? l2 = none → h'.get? x = some (instObj C d) → h'.get? l = some (listObj vs) → h'.get? l2 = some (W.listOf vs.toArray c) → h'.get? d = some (dictOf [ent w.params (Str.ofString "talker") k1 (.str n1 t1), ent w.params (Str.ofString "sentence_type") k2 (.str n2 t2), ent w.params (Str.ofString "data") k3 (.ref l2)] 3) → R (.ok (.ret .none)) { s with heap := h', toks := tk' }) :
   codeAny (model prog w) A (.call (.ref 182) ⟨[.ref x, .str n1 t1, .str n2 t2, .ref l], []⟩) R s := by
  w_top off
  obtain ⟨hd0, dp, fr, gd0, un⟩ := A
  obtain rfl : hd0 = none := hh
  replace hdp : dp < 890 := hdp
  replace hu : un < 8990 := hu
  have hroom : dp < recursionLimit := Nat.lt_of_lt_of_le hdp (by decide)
  k_dflt (refine' enterG hg hsz ?k1 ?k2 (news := [(x, instObj C d), (d, dictOf [] 0), (l, listObj vs)]) ?kN ?k6 ?k7 ?k8 ?k9 ?kB ?_ ?c2 ?c3 ?c4 ?c5; (case k1 => assumption); (case k2 => exact Top.nolimit (by assumption)); (case kN => intro p hp; simp only [List.mem_cons, List.not_mem_nil, or_false] at hp; rcases hp with rfl | rfl | rfl <;> constructor <;> assumption); (case k6 => k_is); (case k7 => k_is); (case k8 => assumption); (case k9 => exact BindsTo.of_eq rfl); (case c5 => decide); (case kB => exact locs rfl); (case c2 => exact rfl); (case c3 => exact rfl); (case c4 => exact rfl); k_whole)
  intro L h1 F Nw
  dsimp only
  generalize s.toks + _ = tk0
  replace F : Fr g L h1 (fun y => List.lookup y [(Str.ofString "data", .ref l), (Str.ofString "sentence_type", .str n2 t2), (Str.ofString "talker", .str n1 t1), (Str.ofString "self", .ref x)]) := F
  clear hx hxd hl hsz hg
  rcases hC with rfl | rfl
  all_goals k_steps
  all_goals
    rename Fr _ _ _ _ => F9
    exact hret _ _ _ _ _ _ _ F9.keep (news_fresh ‹_› (by k_mem)) (News.get (by k_asm) (by k_mem)) (News.get (by k_asm) (by k_mem)) (News.get (by k_asm) (by k_mem)) (News.get (by k_asm) (by k_mem))
set_option maxHeartbeats 8000000 in
theorem init_query {C x d : Addr} {n1 n2 n3 : Str} {t1 t2 t3 : Tok} {vs : List Value} (hg : g.StaysIn s.heap) (hsz : g.objs.size ≤ s.heap.objs.size)
   (X : (hd.heap_39 w.params).In g) (T : Top hd.view_39 loose mean mg mb g) (hh : A.handled = none) (hdp : A.depth < 890) (hu : A.units < 8990)
   (hC : C = 218) (hvs : vs.length ≤ 8192)
   (hx : s.heap.get? x = some (instObj C d)) (hxd : s.heap.get? d = some (dictOf [] 0))
   (gx : g.get? x = none) (gd : g.get? d = none) (dx : @LT.lt Nat _ d x)
   (hret : ∀ h' tk' l2 c k1 k2 k3 k4, g.StaysIn h' → g.get? l2 = none → h'.get? x = some (instObj C d) → h'.get? l2 = some (W.listOf #[] c) → h'.get? d = some (dictOf [ent w.params (Str.ofString "talker") k1 (.str n1 t1), ent w.params (Str.ofString "listener") k2 (.str n2 t2), ent w.params (Str.ofString "sentence_type") k3 (.str n3 t3), ent w.params (Str.ofString "data") k4 (.ref l2)] 4) → R (.ok (.ret .none)) { s with heap := h', toks := tk' }) :
   codeAny (model prog w) A (.call (.ref 208) ⟨[.ref x, .str n1 t1, .str n2 t2, .str n3 t3], []⟩) R s := by
  w_top off
  obtain ⟨hd0, dp, fr, gd0, un⟩ := A
  obtain rfl : hd0 = none := hh
  replace hdp : dp < 890 := hdp
  replace hu : un < 8990 := hu
  have hroom : dp < recursionLimit := Nat.lt_of_lt_of_le hdp (by decide)
  k_dflt (refine' enterG hg hsz ?k1 ?k2 (news := [(x, instObj C d), (d, dictOf [] 0)]) ?kN ?k6 ?k7 ?k8 ?k9 ?kB ?_ ?c2 ?c3 ?c4 ?c5; (case k1 => assumption); (case k2 => exact Top.nolimit (by assumption)); (case kN => intro p hp; simp only [List.mem_cons, List.not_mem_nil, or_false] at hp; rcases hp with rfl | rfl <;> constructor <;> assumption); (case k6 => k_is); (case k7 => k_is); (case k8 => assumption); (case k9 => exact BindsTo.of_eq rfl); (case c5 => decide); (case kB => exact locs rfl); (case c2 => exact rfl); (case c3 => exact rfl); (case c4 => exact rfl); k_whole)
  intro L h1 F Nw
  dsimp only
  generalize s.toks + _ = tk0
  replace F : Fr g L h1 (fun y => List.lookup y [(Str.ofString "sentence_type", .str n3 t3), (Str.ofString "listener", .str n2 t2), (Str.ofString "talker", .str n1 t1), (Str.ofString "self", .ref x)]) := F
  clear hx hxd  hsz hg
  obtain rfl := hC
  all_goals k_steps
  all_goals
    rename Fr _ _ _ _ => F9
    exact hret _ _ _ _ _ _ _ _ F9.keep (news_fresh ‹_› (by k_mem)) (News.get (by k_asm) (by k_mem)) (News.get (by k_asm) (by k_mem)) (News.get (by k_asm) (by k_mem))
set_option maxHeartbeats 8000000 in
theorem init_maker {C x d l : Addr} {n1 : Str} {t1 : Tok} {vs : List Value} (hg : g.StaysIn s.heap) (hsz : g.objs.size ≤ s.heap.objs.size)
   (X : (hd.heap_39 w.params).In g) (T : Top hd.view_39 loose mean mg mb g) (hh : A.handled = none) (hdp : A.depth < 890) (hu : A.units < 8990)
   (hC : C = 244) (hvs : vs.length ≤ 8192)
   (hx : s.heap.get? x = some (instObj C d)) (hxd : s.heap.get? d = some (dictOf [] 0)) (hl : s.heap.get? l = some (listObj vs))
   (gx : g.get? x = none) (gd : g.get? d = none) (gl : g.get? l = none) (dx : @LT.lt Nat _ d x) (ld : @LT.lt Nat _ l d)
   (hret : ∀ h' tk' l2 c k1 k2, g.StaysIn h' → g.get? l2 = none → h'.get? x = some (instObj C d) → h'.get? l = some (listObj vs) → h'.get? l2 = some (W.listOf vs.toArray c) → h'.get? d = some (dictOf [ent w.params (Str.ofString "manufacturer") k1 (.str n1 t1), ent w.params (Str.ofString "data") k2 (.ref l2)] 2) → R (.ok (.ret .none)) { s with heap := h', toks := tk' }) :
   codeAny (model prog w) A (.call (.ref 234) ⟨[.ref x, .str n1 t1, .ref l], []⟩) R s := by
  w_top off
  obtain ⟨hd0, dp, fr, gd0, un⟩ := A
  obtain rfl : hd0 = none := hh
  replace hdp : dp < 890 := hdp
  replace hu : un < 8990 := hu
  have hroom : dp < recursionLimit := Nat.lt_of_lt_of_le hdp (by decide)
  k_dflt (refine' enterG hg hsz ?k1 ?k2 (news := [(x, instObj C d), (d, dictOf [] 0), (l, listObj vs)]) ?kN ?k6 ?k7 ?k8 ?k9 ?kB ?_ ?c2 ?c3 ?c4 ?c5; (case k1 => assumption); (case k2 => exact Top.nolimit (by assumption)); (case kN => intro p hp; simp only [List.mem_cons, List.not_mem_nil, or_false] at hp; rcases hp with rfl | rfl | rfl <;> constructor <;> assumption); (case k6 => k_is); (case k7 => k_is); (case k8 => assumption); (case k9 => exact BindsTo.of_eq rfl); (case c5 => decide); (case kB => exact locs rfl); (case c2 => exact rfl); (case c3 => exact rfl); (case c4 => exact rfl); k_whole)
  intro L h1 F Nw
  dsimp only
  generalize s.toks + _ = tk0
  replace F : Fr g L h1 (fun y => List.lookup y [(Str.ofString "data", .ref l), (Str.ofString "manufacturer", .str n1 t1), (Str.ofString "self", .ref x)]) := F
  clear hx hxd hl hsz hg
  obtain rfl := hC
  all_goals k_steps
  all_goals
    rename Fr _ _ _ _ => F9
    exact hret _ _ _ _ _ _ F9.keep (news_fresh ‹_› (by k_mem)) (News.get (by k_asm) (by k_mem)) (News.get (by k_asm) (by k_mem)) (News.get (by k_asm) (by k_mem)) (News.get (by k_asm) (by k_mem))
end
end Mine
end
-- Im
section
local macro_rules | `(tactic| walk_at "mine no such step") => `(tactic| skip)
local macro_rules | `(tactic| walk_at "mine no such step") => `(tactic| skip)
local macro_rules | `(tactic| walk_at "mine no such step") => `(tactic| skip)
local macro_rules | `(tactic| walk_at "mine no such step") => `(tactic| skip)
local macro_rules | `(tactic| walk_at "mine no such step") => `(tactic| skip)
local macro_rules | `(tactic| walk_at "mine no such step") => `(tactic| skip)
local macro_rules | `(tactic| walk_at "mine no such step") => `(tactic| skip)
local macro_rules | `(tactic| walk_at "mine no such step") => `(tactic| skip)
local macro_rules | `(tactic| walk_at "mine no such step") => `(tactic| skip)
local macro_rules | `(tactic| walk_at "mine no such step") => `(tactic| skip)
local macro_rules | `(tactic| walk_at "mine no such step") => `(tactic| skip)
local macro_rules | `(tactic| walk_at "mine no such step") => `(tactic| skip)
local macro_rules | `(tactic| walk_at "mine no such step") => `(tactic| skip)
local macro_rules | `(tactic| walk_at "mine no such step") => `(tactic| skip)
local macro_rules | `(tactic| walk_at "mine no such step") => `(tactic| skip)
local macro_rules | `(tactic| walk_at "mine no such step") => `(tactic| skip)
local macro_rules | `(tactic| walk_at "mine no such step") => `(tactic| skip)
local macro_rules | `(tactic| walk_at "mine no such step") => `(tactic| skip)
local macro_rules | `(tactic| walk_at "mine no such step") => `(tactic| skip)
local macro_rules | `(tactic| walk_at "mine no such step") => `(tactic| skip)
local macro_rules | `(tactic| walk_at "mine no such step") => `(tactic| skip)
local macro_rules | `(tactic| walk_at "mine no such step") => `(tactic| skip)
local macro_rules | `(tactic| walk_at "mine no such step") => `(tactic| skip)
local macro_rules | `(tactic| walk_at "mine no such step") => `(tactic| skip)
local macro_rules | `(tactic| walk_at "mine no such step") => `(tactic| skip)
local macro_rules | `(tactic| walk_at "mine no such step") => `(tactic| skip)
local macro_rules | `(tactic| walk_at "mine no such step") => `(tactic| skip)
local macro_rules | `(tactic| walk_at "mine no such step") => `(tactic| skip)
local macro_rules | `(tactic| walk_at "mine no such step") => `(tactic| skip)
local macro_rules | `(tactic| walk_at "mine no such step") => `(tactic| skip)
local macro_rules | `(tactic| walk_at "mine no such step") => `(tactic| skip)
local macro_rules | `(tactic| walk_at "mine no such step") => `(tactic| skip)
local macro_rules | `(tactic| walk_at "mine no such step") => `(tactic| skip)
local macro_rules | `(tactic| walk_at "mine no such step") => `(tactic| skip)
local macro_rules | `(tactic| walk_at "mine no such step") => `(tactic| skip)
local macro_rules | `(tactic| walk_at "mine no such step") => `(tactic| skip)
local macro_rules | `(tactic| walk_at "mine no such step") => `(tactic| skip)
local macro_rules | `(tactic| walk_at "mine no such step") => `(tactic| skip)
local macro_rules | `(tactic| walk_at "mine no such step") => `(tactic| skip)
local macro_rules | `(tactic| walk_at "mine no such step") => `(tactic| skip)
open PySem PySem.W PyProof.Rows
set_option maxRecDepth 100000
set_option linter.unusedVariables false
namespace Mine
section
variable {prog : Program} {w : World} {mean : ExcName → Option Value} {mg mb : Str → Option Value} {loose : List Str}
   {A : Around} {E : Value → Shared → Prop} {s : Shared} {Q : Value → Shared → Prop} {g0 : Heap}
theorem made_stays {g0 hp h' : Heap} {C : Addr} {hid : List Addr} (hg0 : g0.StaysIn hp) (hid0 : ∀ a ∈ hid, g0.get? a = none) :
    g0.StaysIn (hideAll ((hp.push emptyDict).push (instObj C hp.objs.size)) hid) := fun b o q =>
  hideAll_get _ (Heap.get?_push_of_some _ (Heap.get?_push_of_some _ (hg0 b o q))) fun hm => by rw [hid0 b hm] at q; cases q
theorem made_none {g0 hp : Heap} (hg0 : g0.StaysIn hp) {a : Addr} (h : hp.objs.size ≤ a) : g0.get? a = none := by
  cases q : g0.get? a with
  | none => rfl
  | some o => exact absurd (Heap.lt_size (hg0 a o q)) (Nat.not_lt.mpr h)
theorem none_of_stays {g0 g : Heap} (k : g0.StaysIn g) {a : Addr} (h : g.get? a = none) : g0.get? a = none := by
  cases q : g0.get? a with
  | none => rfl
  | some o => rw [k a o q] at h; cases h
theorem inst_talker {C l : Addr} {n1 n2 : Str} {t1 t2 : Tok} {vs : List Value} (hg0 : g0.StaysIn s.heap) (X : (hd.heap_39 w.params).In g0) (T : Top hd.view_39 loose mean mg mb g0) (hh : A.handled = none) (hdp : A.depth < 880) (hu : A.units < 8980)
    (hC : C = 310 ∨ C = 292) (hvs : vs.length ≤ 8192) (hl : s.heap.get? l = some (listObj vs)) (gl : g0.get? l = none)
    (h : ∀ h' tk' x d l2 c k1 k2 k3, s.heap.StaysIn h' → g0.get? x = none → g0.get? d = none → g0.get? l2 = none → h'.get? x = some (instObj C d) → h'.get? l2 = some (W.listOf vs.toArray c) →
      h'.get? d = some (dictOf [ent w.params (Str.ofString "talker") k1 (.str n1 t1), ent w.params (Str.ofString "sentence_type") k2 (.str n2 t2), ent w.params (Str.ofString "data") k3 (.ref l2)] 3) → Q (.ref x) { s with heap := h', toks := tk' }) :
    wpAny (model prog w) A (call (.ref C) [.str n1 t1, .str n2 t2, .ref l]) Q E s := by
  w_top off
  obtain ⟨hp, g, d, t, os⟩ := s
  have hlt := Heap.lt_size hl
  have e1 : ((hp.push emptyDict).push (instObj C hp.objs.size)).get? (hp.objs.size + 1) = some (instObj C hp.objs.size) := by heap_get
  have e2 : ((hp.push emptyDict).push (instObj C hp.objs.size)).get? hp.objs.size = some emptyDict := Heap.get?_push_of_some _ (Heap.get?_push_at rfl rfl)
  have e3 := Heap.get?_push_of_some (instObj C hp.objs.size) (Heap.get?_push_of_some emptyDict hl)
  have k0 : g0.StaysIn (hideAll ((hp.push emptyDict).push (instObj C hp.objs.size)) [hp.objs.size + 1, hp.objs.size, l]) := made_stays (h' := hp) hg0 fun a ha => by
    simp only [List.mem_cons, List.not_mem_nil, or_false] at ha
    rcases ha with rfl | rfl | rfl
    · exact made_none hg0 (Nat.le_succ _)
    · exact made_none hg0 (Nat.le_refl _)
    · exact gl
  have Xg := X.keeps hg0
  have hm : makesIn (hd.heap_39 w.params) C = true := by rcases hC with rfl | rfl <;> k_is
  have hi : findIn (hd.heap_39 w.params) (.ref C) "__init__" = some (some (.ref 182)) := by rcases hC with rfl | rfl <;> k_is
  have hf : typeIn (hd.heap_39 w.params) (.ref 182) = some (.type "function") := by k_is
  refine wpAny_call (make_core (makes_of Xg hm) (looks_findIn Xg hi) (fun self => bind_fn Xg self hf) (.inl rfl) ?_)
  refine init_talker (g := hideAll ((hp.push emptyDict).push (instObj C hp.objs.size)) [hp.objs.size + 1, hp.objs.size, l]) (fun b o q => of_hideAll _ q) (Nat.le_of_eq (hideAll_size _ _)) (X.keeps k0) (T.keeps k0) hh ?_ ?_ hC hvs e1 e2 e3 (hideAll_none _ (by simp)) (hideAll_none _ (by simp)) (hideAll_none _ (by simp)) (Nat.lt_succ_self _) hlt ?_
  · show A.depth + 1 < 890; omega
  · show A.units + 1 < 8990; omega
  intro h' tk' l2 c k1 k2 k3 k n2' ex el el2 ed
  refine ⟨rfl, h h' tk' _ _ l2 c k1 k2 k3 (fun b o q => ?_) (made_none hg0 (Nat.le_succ _)) (made_none hg0 (Nat.le_refl _)) (none_of_stays k0 n2') ex el2 ed⟩
  by_cases hb : b = l
  · subst hb; rw [hl] at q; cases q; exact el
  · refine k b o (hideAll_get _ (Heap.get?_push_of_some _ (Heap.get?_push_of_some _ q)) fun hm => ?_)
    have := Heap.lt_size q
    simp only [List.mem_cons, List.not_mem_nil, or_false] at hm
    rcases hm with rfl | rfl | rfl
    · exact absurd this (Nat.not_lt.mpr (Nat.le_succ _))
    · exact absurd this (Nat.lt_irrefl _)
    · exact hb rfl
theorem inst_maker {C l : Addr} {n1 : Str} {t1 : Tok} {vs : List Value} (hg0 : g0.StaysIn s.heap) (X : (hd.heap_39 w.params).In g0) (T : Top hd.view_39 loose mean mg mb g0) (hh : A.handled = none) (hdp : A.depth < 880) (hu : A.units < 8980)
    (hC : C = 244) (hvs : vs.length ≤ 8192) (hl : s.heap.get? l = some (listObj vs)) (gl : g0.get? l = none)
    (h : ∀ h' tk' x d l2 c k1 k2, s.heap.StaysIn h' → g0.get? x = none → g0.get? d = none → g0.get? l2 = none → h'.get? x = some (instObj C d) → h'.get? l2 = some (W.listOf vs.toArray c) →
      h'.get? d = some (dictOf [ent w.params (Str.ofString "manufacturer") k1 (.str n1 t1), ent w.params (Str.ofString "data") k2 (.ref l2)] 2) → Q (.ref x) { s with heap := h', toks := tk' }) :
    wpAny (model prog w) A (call (.ref C) [.str n1 t1, .ref l]) Q E s := by
  w_top off
  obtain ⟨hp, g, d, t, os⟩ := s
  have hlt := Heap.lt_size hl
  have e1 : ((hp.push emptyDict).push (instObj C hp.objs.size)).get? (hp.objs.size + 1) = some (instObj C hp.objs.size) := by heap_get
  have e2 : ((hp.push emptyDict).push (instObj C hp.objs.size)).get? hp.objs.size = some emptyDict := Heap.get?_push_of_some _ (Heap.get?_push_at rfl rfl)
  have e3 := Heap.get?_push_of_some (instObj C hp.objs.size) (Heap.get?_push_of_some emptyDict hl)
  have k0 : g0.StaysIn (hideAll ((hp.push emptyDict).push (instObj C hp.objs.size)) [hp.objs.size + 1, hp.objs.size, l]) := made_stays (h' := hp) hg0 fun a ha => by
    simp only [List.mem_cons, List.not_mem_nil, or_false] at ha
    rcases ha with rfl | rfl | rfl
    · exact made_none hg0 (Nat.le_succ _)
    · exact made_none hg0 (Nat.le_refl _)
    · exact gl
  have Xg := X.keeps hg0
  have hm : makesIn (hd.heap_39 w.params) C = true := by obtain rfl := hC; k_is
  have hi : findIn (hd.heap_39 w.params) (.ref C) "__init__" = some (some (.ref 234)) := by obtain rfl := hC; k_is
  have hf : typeIn (hd.heap_39 w.params) (.ref 234) = some (.type "function") := by k_is
  refine wpAny_call (make_core (makes_of Xg hm) (looks_findIn Xg hi) (fun self => bind_fn Xg self hf) (.inl rfl) ?_)
  refine init_maker (g := hideAll ((hp.push emptyDict).push (instObj C hp.objs.size)) [hp.objs.size + 1, hp.objs.size, l]) (fun b o q => of_hideAll _ q) (Nat.le_of_eq (hideAll_size _ _)) (X.keeps k0) (T.keeps k0) hh ?_ ?_ hC hvs e1 e2 e3 (hideAll_none _ (by simp)) (hideAll_none _ (by simp)) (hideAll_none _ (by simp)) (Nat.lt_succ_self _) hlt ?_
  · show A.depth + 1 < 890; omega
  · show A.units + 1 < 8990; omega
  intro h' tk' l2 c k1 k2 k n2' ex el el2 ed
  refine ⟨rfl, h h' tk' _ _ l2 c k1 k2 (fun b o q => ?_) (made_none hg0 (Nat.le_succ _)) (made_none hg0 (Nat.le_refl _)) (none_of_stays k0 n2') ex el2 ed⟩
  by_cases hb : b = l
  · subst hb; rw [hl] at q; cases q; exact el
  · refine k b o (hideAll_get _ (Heap.get?_push_of_some _ (Heap.get?_push_of_some _ q)) fun hm => ?_)
    have := Heap.lt_size q
    simp only [List.mem_cons, List.not_mem_nil, or_false] at hm
    rcases hm with rfl | rfl | rfl
    · exact absurd this (Nat.not_lt.mpr (Nat.le_succ _))
    · exact absurd this (Nat.lt_irrefl _)
    · exact hb rfl
theorem inst_query {C : Addr} {n1 n2 n3 : Str} {t1 t2 t3 : Tok} (hg0 : g0.StaysIn s.heap) (X : (hd.heap_39 w.params).In g0) (T : Top hd.view_39 loose mean mg mb g0) (hh : A.handled = none) (hdp : A.depth < 880) (hu : A.units < 8980)
    (hC : C = 218)
    (h : ∀ h' tk' x d l2 c k1 k2 k3 k4, s.heap.StaysIn h' → g0.get? x = none → g0.get? d = none → g0.get? l2 = none → h'.get? x = some (instObj C d) → h'.get? l2 = some (W.listOf #[] c) →
      h'.get? d = some (dictOf [ent w.params (Str.ofString "talker") k1 (.str n1 t1), ent w.params (Str.ofString "listener") k2 (.str n2 t2), ent w.params (Str.ofString "sentence_type") k3 (.str n3 t3), ent w.params (Str.ofString "data") k4 (.ref l2)] 4) → Q (.ref x) { s with heap := h', toks := tk' }) :
    wpAny (model prog w) A (call (.ref C) [.str n1 t1, .str n2 t2, .str n3 t3]) Q E s := by
  w_top off
  obtain ⟨hp, g, d, t, os⟩ := s
  have e1 : ((hp.push emptyDict).push (instObj C hp.objs.size)).get? (hp.objs.size + 1) = some (instObj C hp.objs.size) := by heap_get
  have e2 : ((hp.push emptyDict).push (instObj C hp.objs.size)).get? hp.objs.size = some emptyDict := Heap.get?_push_of_some _ (Heap.get?_push_at rfl rfl)
  have k0 : g0.StaysIn (hideAll ((hp.push emptyDict).push (instObj C hp.objs.size)) [hp.objs.size + 1, hp.objs.size]) := made_stays (h' := hp) hg0 fun a ha => by
    simp only [List.mem_cons, List.not_mem_nil, or_false] at ha
    rcases ha with rfl | rfl
    · exact made_none hg0 (Nat.le_succ _)
    · exact made_none hg0 (Nat.le_refl _)
  have Xg := X.keeps hg0
  have hm : makesIn (hd.heap_39 w.params) C = true := by obtain rfl := hC; k_is
  have hi : findIn (hd.heap_39 w.params) (.ref C) "__init__" = some (some (.ref 208)) := by obtain rfl := hC; k_is
  have hf : typeIn (hd.heap_39 w.params) (.ref 208) = some (.type "function") := by k_is
  refine wpAny_call (make_core (makes_of Xg hm) (looks_findIn Xg hi) (fun self => bind_fn Xg self hf) (.inl rfl) ?_)
  refine init_query (vs := []) (g := hideAll ((hp.push emptyDict).push (instObj C hp.objs.size)) [hp.objs.size + 1, hp.objs.size]) (fun b o q => of_hideAll _ q) (Nat.le_of_eq (hideAll_size _ _)) (X.keeps k0) (T.keeps k0) hh ?_ ?_ hC (by decide) e1 e2 (hideAll_none _ (by simp)) (hideAll_none _ (by simp)) (Nat.lt_succ_self _) ?_
  · show A.depth + 1 < 890; omega
  · show A.units + 1 < 8990; omega
  intro h' tk' l2 c k1 k2 k3 k4 k n2' ex el2 ed
  refine ⟨rfl, h h' tk' _ _ l2 c k1 k2 k3 k4 (fun b o q => ?_) (made_none hg0 (Nat.le_succ _)) (made_none hg0 (Nat.le_refl _)) (none_of_stays k0 n2') ex el2 ed⟩
  refine k b o (hideAll_get _ (Heap.get?_push_of_some _ (Heap.get?_push_of_some _ q)) fun hm => ?_)
  have := Heap.lt_size q
  simp only [List.mem_cons, List.not_mem_nil, or_false] at hm
  rcases hm with rfl | rfl
  · exact absurd this (Nat.not_lt.mpr (Nat.le_succ _))
  · exact absurd this (Nat.lt_irrefl _)
end
end Mine
end
-- Rd
section
open PySem PySem.W PyProof.Rows
set_option maxRecDepth 100000
set_option linter.all false
namespace Mine
theorem isTup_K {K : Frag} {h : Heap} {a : Addr} {o : Obj} {items : Array Value} {n : Nat} (X : K.In h) (e : K.lookup a = some o) (ho : o = { cls := .type "tuple", data := .seq items n }) : IsTup h a items := by
  subst ho
  exact ⟨_, X _ _ e, rfl, n, rfl⟩
local macro_rules | `(tactic| walk_at "compareOp NotIn str ref") => `(tactic| (k_here; (with_reducible show wpAny _ _ (compareOp CmpOp.NotIn (Value.str _ _) (Value.ref _)) _ _ _); (with_unfolding_all refine' notin_tuple_strs ?k1 ?k2 ?_; (case k1 => exact isTup_K (by k_in) (by k_is) rfl); (case k2 => kde_strs); k_whole)))
section
variable {prog : Program} {w : World} {mean : ExcName → Option Value} {mg mb : Str → Option Value} {loose : List Str}
   {A : Around} {outer : List Env} {base g : Heap} {s : Shared} {R : Result → Shared → Prop}
set_option maxHeartbeats 8000000 in
theorem init_reader {x d : Addr} {way : Str} {t1 : Tok} (hg : g.StaysIn s.heap) (hsz : g.objs.size ≤ s.heap.objs.size)
   (X : (hd.heap_39 w.params).In g) (T : Top hd.view_39 loose mean mg mb g) (hh : A.handled = none) (hdp : A.depth < 890) (hu : A.units < 8990)
   (hw : way = Str.ofString "raise" ∨ way = Str.ofString "yield" ∨ way = Str.ofString "ignore")
   (hx : s.heap.get? x = some (instObj 273 d)) (hxd : s.heap.get? d = some (dictOf [] 0))
   (gx : g.get? x = none) (gd : g.get? d = none) (dx : @LT.lt Nat _ d x)
   (hret : ∀ h' tk' k1 t1 k2 k3 t3, g.StaysIn h' → h'.get? x = some (instObj 273 d) → h'.get? d = some (dictOf [ent w.params (Str.ofString "errors") k1 (.str way t1), ent w.params (Str.ofString "stream") k2 .none, ent w.params (Str.ofString "buffer") k3 (.str (Str.ofString "") t3)] 3) → R (.ok (.ret .none)) { s with heap := h', toks := tk' }) :
   codeAny (model prog w) A (.call (.ref 262) ⟨[.ref x, .none, .str way t1], []⟩) R s := by
  w_top off
  obtain ⟨hd0, dp, fr, gd0, un⟩ := A
  obtain rfl : hd0 = none := hh
  replace hdp : dp < 890 := hdp
  replace hu : un < 8990 := hu
  have hroom : dp < recursionLimit := Nat.lt_of_lt_of_le hdp (by decide)
  have Xs := X.keeps hg
  k_dflt (refine' enterG hg hsz ?k1 ?k2 (news := [(x, instObj 273 d), (d, dictOf [] 0)]) ?kN ?k6 ?k7 ?k8 ?k9 ?kB ?_ ?c2 ?c3 ?c4 ?c5; (case k1 => assumption); (case k2 => exact Top.nolimit (by assumption)); (case kN => intro p hp; simp only [List.mem_cons, List.not_mem_nil, or_false] at hp; rcases hp with rfl | rfl <;> constructor <;> assumption); (case k6 => k_is); (case k7 => k_is); (case k8 => assumption); (case k9 => first | exact BindsTo.of_eq rfl | exact binds_K (by assumption) rfl (by k_is) rfl rfl rfl); (case c5 => decide); (case kB => exact locs rfl); (case c2 => exact rfl); (case c3 => exact rfl); (case c4 => exact rfl); k_whole)
  intro L h1 F Nw
  dsimp only
  generalize s.toks + _ = tk0
  replace F : Fr g L h1 (fun y => List.lookup y [(Str.ofString "errors", .str way t1), (Str.ofString "stream", .none), (Str.ofString "self", .ref x)]) := F
  clear hx hxd hsz hg Xs
  rcases hw with rfl | rfl | rfl
  all_goals k_steps
  all_goals
    rename Fr _ _ _ _ => F9
    rename News _ _ _ _ => N9
    exact hret _ _ _ _ _ _ _ F9.keep (N9 _ (.head _)).1 (N9 _ (.tail _ (.head _))).1
set_option maxHeartbeats 8000000 in
theorem init_reader0 {x d : Addr} (hg : g.StaysIn s.heap) (hsz : g.objs.size ≤ s.heap.objs.size)
   (X : (hd.heap_39 w.params).In g) (T : Top hd.view_39 loose mean mg mb g) (hh : A.handled = none) (hdp : A.depth < 890) (hu : A.units < 8990)
   (hx : s.heap.get? x = some (instObj 273 d)) (hxd : s.heap.get? d = some (dictOf [] 0))
   (gx : g.get? x = none) (gd : g.get? d = none) (dx : @LT.lt Nat _ d x)
   (hret : ∀ h' tk' k1 t1 k2 k3 t3, g.StaysIn h' → h'.get? x = some (instObj 273 d) → h'.get? d = some (dictOf [ent w.params (Str.ofString "errors") k1 (.str (Str.ofString "raise") t1), ent w.params (Str.ofString "stream") k2 .none, ent w.params (Str.ofString "buffer") k3 (.str (Str.ofString "") t3)] 3) → R (.ok (.ret .none)) { s with heap := h', toks := tk' }) :
   codeAny (model prog w) A (.call (.ref 262) ⟨[.ref x], []⟩) R s := by
  w_top off
  obtain ⟨hd0, dp, fr, gd0, un⟩ := A
  obtain rfl : hd0 = none := hh
  replace hdp : dp < 890 := hdp
  replace hu : un < 8990 := hu
  have hroom : dp < recursionLimit := Nat.lt_of_lt_of_le hdp (by decide)
  have Xs := X.keeps hg
  k_dflt (refine' enterG hg hsz ?k1 ?k2 (news := [(x, instObj 273 d), (d, dictOf [] 0)]) ?kN ?k6 ?k7 ?k8 ?k9 ?kB ?_ ?c2 ?c3 ?c4 ?c5; (case k1 => assumption); (case k2 => exact Top.nolimit (by assumption)); (case kN => intro p hp; simp only [List.mem_cons, List.not_mem_nil, or_false] at hp; rcases hp with rfl | rfl <;> constructor <;> assumption); (case k6 => k_is); (case k7 => k_is); (case k8 => assumption); (case k9 => first | exact BindsTo.of_eq rfl | exact binds_K (by assumption) rfl (by k_is) rfl rfl rfl); (case c5 => decide); (case kB => exact locs rfl); (case c2 => exact rfl); (case c3 => exact rfl); (case c4 => exact rfl); k_whole)
  intro L h1 F Nw
  dsimp only
  generalize s.toks + _ = tk0
  clear hx hxd hsz hg Xs
  all_goals k_steps
  all_goals
    rename Fr _ _ _ _ => F9
    rename News _ _ _ _ => N9
    exact hret _ _ _ _ _ _ _ F9.keep (N9 _ (.head _)).1 (N9 _ (.tail _ (.head _))).1
theorem inst_reader {Q : Value → Shared → Prop} {E : Value → Shared → Prop} {g0 : Heap} {way : Str} {t1 : Tok} (hg0 : g0.StaysIn s.heap) (X : (hd.heap_39 w.params).In g0) (T : Top hd.view_39 loose mean mg mb g0) (hh : A.handled = none) (hdp : A.depth < 880) (hu : A.units < 8980)
    (hw : way = Str.ofString "raise" ∨ way = Str.ofString "yield" ∨ way = Str.ofString "ignore")
    (h : ∀ h' tk' x d, s.heap.StaysIn h' → s.heap.get? x = none → s.heap.get? d = none → h'.get? x = some (instObj 273 d) → @LT.lt Nat _ d x →
      (∃ k1 t1 k2 k3 t3, h'.get? d = some (dictOf [ent w.params (Str.ofString "errors") k1 (.str way t1), ent w.params (Str.ofString "stream") k2 .none, ent w.params (Str.ofString "buffer") k3 (.str (Str.ofString "") t3)] 3)) → Q (.ref x) { s with heap := h', toks := tk' }) :
    wpAny (model prog w) A (call (.ref 273) [.none, .str way t1]) Q E s := by
  w_top off
  obtain ⟨hp, g, d, t, os⟩ := s
  have e1 : ((hp.push emptyDict).push (instObj 273 hp.objs.size)).get? (hp.objs.size + 1) = some (instObj 273 hp.objs.size) := by heap_get
  have e2 : ((hp.push emptyDict).push (instObj 273 hp.objs.size)).get? hp.objs.size = some emptyDict := Heap.get?_push_of_some _ (Heap.get?_push_at rfl rfl)
  have k0 : g0.StaysIn (hideAll ((hp.push emptyDict).push (instObj 273 hp.objs.size)) [hp.objs.size + 1, hp.objs.size]) := made_stays (h' := hp) hg0 fun a ha => by
    simp only [List.mem_cons, List.not_mem_nil, or_false] at ha
    rcases ha with rfl | rfl
    · exact made_none hg0 (Nat.le_succ _)
    · exact made_none hg0 (Nat.le_refl _)
  have Xg := X.keeps hg0
  have hm : makesIn (hd.heap_39 w.params) 273 = true := by k_is
  have hi : findIn (hd.heap_39 w.params) (.ref 273) "__init__" = some (some (.ref 262)) := by k_is
  have hf : typeIn (hd.heap_39 w.params) (.ref 262) = some (.type "function") := by k_is
  refine wpAny_call (make_core (makes_of Xg hm) (looks_findIn Xg hi) (fun self => bind_fn Xg self hf) (.inl rfl) ?_)
  refine init_reader (g := hideAll ((hp.push emptyDict).push (instObj 273 hp.objs.size)) [hp.objs.size + 1, hp.objs.size]) (fun b o q => of_hideAll _ q) (Nat.le_of_eq (hideAll_size _ _)) (X.keeps k0) (T.keeps k0) hh ?_ ?_ hw e1 e2 (hideAll_none _ (by simp)) (hideAll_none _ (by simp)) (Nat.lt_succ_self _) ?_
  · show A.depth + 1 < 890; omega
  · show A.units + 1 < 8990; omega
  intro h' tk' k1 t1 k2 k3 t3 k ex ed
  refine ⟨rfl, h h' tk' _ _ (fun b o q => ?_) (Heap.get?_none_of_le (Nat.le_succ _)) (Heap.get?_none_of_le (Nat.le_refl _)) ex (Nat.lt_succ_self _) ⟨_, _, _, _, _, ed⟩⟩
  refine k b o (hideAll_get _ (Heap.get?_push_of_some _ (Heap.get?_push_of_some _ q)) fun hm => ?_)
  have := Heap.lt_size q
  simp only [List.mem_cons, List.not_mem_nil, or_false] at hm
  rcases hm with rfl | rfl
  · exact absurd this (Nat.not_lt.mpr (Nat.le_succ _))
  · exact absurd this (Nat.lt_irrefl _)
theorem inst_reader0 {Q : Value → Shared → Prop} {E : Value → Shared → Prop} {g0 : Heap} (hg0 : g0.StaysIn s.heap) (X : (hd.heap_39 w.params).In g0) (T : Top hd.view_39 loose mean mg mb g0) (hh : A.handled = none) (hdp : A.depth < 880) (hu : A.units < 8980)
    (h : ∀ h' tk' x d, s.heap.StaysIn h' → s.heap.get? x = none → s.heap.get? d = none → h'.get? x = some (instObj 273 d) → @LT.lt Nat _ d x →
      (∃ k1 t1 k2 k3 t3, h'.get? d = some (dictOf [ent w.params (Str.ofString "errors") k1 (.str (Str.ofString "raise") t1), ent w.params (Str.ofString "stream") k2 .none, ent w.params (Str.ofString "buffer") k3 (.str (Str.ofString "") t3)] 3)) → Q (.ref x) { s with heap := h', toks := tk' }) :
    wpAny (model prog w) A (call (.ref 273) []) Q E s := by
  w_top off
  obtain ⟨hp, g, d, t, os⟩ := s
  have e1 : ((hp.push emptyDict).push (instObj 273 hp.objs.size)).get? (hp.objs.size + 1) = some (instObj 273 hp.objs.size) := by heap_get
  have e2 : ((hp.push emptyDict).push (instObj 273 hp.objs.size)).get? hp.objs.size = some emptyDict := Heap.get?_push_of_some _ (Heap.get?_push_at rfl rfl)
  have k0 : g0.StaysIn (hideAll ((hp.push emptyDict).push (instObj 273 hp.objs.size)) [hp.objs.size + 1, hp.objs.size]) := made_stays (h' := hp) hg0 fun a ha => by
    simp only [List.mem_cons, List.not_mem_nil, or_false] at ha
    rcases ha with rfl | rfl
    · exact made_none hg0 (Nat.le_succ _)
    · exact made_none hg0 (Nat.le_refl _)
  have Xg := X.keeps hg0
  have hm : makesIn (hd.heap_39 w.params) 273 = true := by k_is
  have hi : findIn (hd.heap_39 w.params) (.ref 273) "__init__" = some (some (.ref 262)) := by k_is
  have hf : typeIn (hd.heap_39 w.params) (.ref 262) = some (.type "function") := by k_is
  refine wpAny_call (make_core (makes_of Xg hm) (looks_findIn Xg hi) (fun self => bind_fn Xg self hf) (.inl rfl) ?_)
  refine init_reader0 (g := hideAll ((hp.push emptyDict).push (instObj 273 hp.objs.size)) [hp.objs.size + 1, hp.objs.size]) (fun b o q => of_hideAll _ q) (Nat.le_of_eq (hideAll_size _ _)) (X.keeps k0) (T.keeps k0) hh ?_ ?_ e1 e2 (hideAll_none _ (by simp)) (hideAll_none _ (by simp)) (Nat.lt_succ_self _) ?_
  · show A.depth + 1 < 890; omega
  · show A.units + 1 < 8990; omega
  intro h' tk' k1 t1 k2 k3 t3 k ex ed
  refine ⟨rfl, h h' tk' _ _ (fun b o q => ?_) (Heap.get?_none_of_le (Nat.le_succ _)) (Heap.get?_none_of_le (Nat.le_refl _)) ex (Nat.lt_succ_self _) ⟨_, _, _, _, _, ed⟩⟩
  refine k b o (hideAll_get _ (Heap.get?_push_of_some _ (Heap.get?_push_of_some _ q)) fun hm => ?_)
  have := Heap.lt_size q
  simp only [List.mem_cons, List.not_mem_nil, or_false] at hm
  rcases hm with rfl | rfl
  · exact absurd this (Nat.not_lt.mpr (Nat.le_succ _))
  · exact absurd this (Nat.lt_irrefl _)
end
end Mine
end
-- Mb
section
local macro_rules | `(tactic| walk_at "mine no such step") => `(tactic| skip)
local macro_rules | `(tactic| walk_at "mine no such step") => `(tactic| skip)
local macro_rules | `(tactic| walk_at "mine no such step") => `(tactic| skip)
local macro_rules | `(tactic| walk_at "mine no such step") => `(tactic| skip)
local macro_rules | `(tactic| walk_at "mine no such step") => `(tactic| skip)
local macro_rules | `(tactic| walk_at "mine no such step") => `(tactic| skip)
local macro_rules | `(tactic| walk_at "mine no such step") => `(tactic| skip)
local macro_rules | `(tactic| walk_at "mine no such step") => `(tactic| skip)
local macro_rules | `(tactic| walk_at "mine no such step") => `(tactic| skip)
local macro_rules | `(tactic| walk_at "mine no such step") => `(tactic| skip)
local macro_rules | `(tactic| walk_at "mine no such step") => `(tactic| skip)
local macro_rules | `(tactic| walk_at "mine no such step") => `(tactic| skip)
local macro_rules | `(tactic| walk_at "mine no such step") => `(tactic| skip)
local macro_rules | `(tactic| walk_at "mine no such step") => `(tactic| skip)
local macro_rules | `(tactic| walk_at "mine no such step") => `(tactic| skip)
local macro_rules | `(tactic| walk_at "mine no such step") => `(tactic| skip)
local macro_rules | `(tactic| walk_at "mine no such step") => `(tactic| skip)
local macro_rules | `(tactic| walk_at "mine no such step") => `(tactic| skip)
local macro_rules | `(tactic| walk_at "mine no such step") => `(tactic| skip)
local macro_rules | `(tactic| walk_at "mine no such step") => `(tactic| skip)
local macro_rules | `(tactic| walk_at "mine no such step") => `(tactic| skip)
local macro_rules | `(tactic| walk_at "mine no such step") => `(tactic| skip)
local macro_rules | `(tactic| walk_at "mine no such step") => `(tactic| skip)
local macro_rules | `(tactic| walk_at "mine no such step") => `(tactic| skip)
local macro_rules | `(tactic| walk_at "mine no such step") => `(tactic| skip)
local macro_rules | `(tactic| walk_at "mine no such step") => `(tactic| skip)
local macro_rules | `(tactic| walk_at "mine no such step") => `(tactic| skip)
local macro_rules | `(tactic| walk_at "mine no such step") => `(tactic| skip)
local macro_rules | `(tactic| walk_at "mine no such step") => `(tactic| skip)
local macro_rules | `(tactic| walk_at "mine no such step") => `(tactic| skip)
local macro_rules | `(tactic| walk_at "mine no such step") => `(tactic| skip)
local macro_rules | `(tactic| walk_at "mine no such step") => `(tactic| skip)
local macro_rules | `(tactic| walk_at "mine no such step") => `(tactic| skip)
local macro_rules | `(tactic| walk_at "mine no such step") => `(tactic| skip)
local macro_rules | `(tactic| walk_at "mine no such step") => `(tactic| skip)
local macro_rules | `(tactic| walk_at "mine no such step") => `(tactic| skip)
local macro_rules | `(tactic| walk_at "mine no such step") => `(tactic| skip)
local macro_rules | `(tactic| walk_at "mine no such step") => `(tactic| skip)
local macro_rules | `(tactic| walk_at "mine no such step") => `(tactic| skip)
local macro_rules | `(tactic| walk_at "mine no such step") => `(tactic| skip)
open PySem PySem.W PyProof.Rows
set_option maxRecDepth 100000
set_option linter.all false
namespace Mine
local macro_rules | `(tactic| walk_at "compareOp NotIn str ref") => `(tactic| (k_here; (with_reducible show wpAny _ _ (compareOp CmpOp.NotIn (Value.str _ _) (Value.ref _)) _ _ _); (with_unfolding_all refine' notin_tuple_strs ?k1 ?k2 ?_; (case k1 => exact isTup_K (by k_in) (by k_is) rfl); (case k2 => kde_strs); k_whole)))
theorem reads_tup {K : Frag} {h : Heap} {n : Nat} {a : Addr} {o : Obj} {items : Array Value} {ds : List PyData} (X : K.In h) (e : K.lookup a = some o) (ho : o = { cls := .type "tuple", data := .seq items n }) (hr : ReadsAll h items.toList ds []) : Reads h (.ref a) (.tuple ds) [] := by
  subst ho
  exact .tuple (X _ _ e) rfl rfl hr
section
variable {prog : Program} {w : World} {mean : ExcName → Option Value} {mg mb : Str → Option Value} {loose : List Str}
   {A : Around} {outer : List Env} {base g : Heap} {s : Shared} {R : Result → Shared → Prop}
set_option maxHeartbeats 8000000 in
theorem repr_errors {A : Around} {E : Value → Shared → Prop} {Q : Value → Shared → Prop} (X : (hd.heap_39 w.params).In g) (hg : g.StaysIn s.heap) (hgd : A.guards = some []) (hu : A.units < 9000)
    (hQ : ∀ h' u tk x, s.heap.StaysIn h' → x.length ≤ 100 → Q (.str x u) { s with heap := h', toks := tk }) : wpAny (model prog w) A (pyReprObj (.ref 247)) Q E s := by
  w_top off
  have r : Reads g (.ref 247) (.tuple [.str (Str.ofString "raise"), .str (Str.ofString "yield"), .str (Str.ofString "ignore")]) [] := by
    refine' reads_tup X ?e ?r ?h
    case e => k_is
    case r => rfl
    case h => exact .cons (as := []) (.str _ _) (.cons (as := []) (.str _ _) (.cons (as := []) (.str _ _) .nil))
  have hd1 : PyData.depth (.tuple [.str (Str.ofString "raise"), .str (Str.ofString "yield"), .str (Str.ofString "ignore")]) = 1 := by decide +kernel
  refine pyReprObj_of_reads r (by decide +kernel) (by decide) hgd ?_ hg (fun h' u tk k => hQ h' u tk _ k ?_) ?_
  · rw [hd1]; have : cLine = cLine := rfl; unfold cLine at *; omega
  · decide +kernel
  · decide +kernel
theorem repr_short {A : Around} {E : Value → Shared → Prop} {Q : Value → Shared → Prop} {x : Str} {t : Tok} (hx : (reprText x).length ≤ 100) (hQ : ∀ y : Str, y.length ≤ 100 → Q (.str y s.toks) { s with toks := s.toks + 1 }) : wpAny (model prog w) A (pyReprObj (.str x t)) Q E s :=
  pyReprObj_str (hQ _ hx) (Nat.le_trans hx (by decide))
local macro_rules | `(tactic| walk_at "pyReprObj str") => `(tactic| (refine repr_short (by decide +kernel) ?_; intro y9 hy9))
local macro_rules | `(tactic| walk_at "pyReprObj ref") => `(tactic| ((rename Fr _ _ _ _ => F'); (rename News _ _ _ _ => N'); (refine' repr_errors (by assumption) F'.keep ?gd ?u ?_; (case gd => with_unfolding_all assumption); (case u => (simp only [units_under_make, units_in1, units_deeper, Around.mark_units, units_caller]; omega)); (intro h9 u9 tk9 x9 hk9 hx9; replace F' := F'.keeps hk9; replace N' := N'.grown hk9; k_whole))))
set_option maxHeartbeats 8000000 in
theorem init_bad {x d : Addr} {way : Str} {t1 : Tok} (hg : g.StaysIn s.heap) (hsz : g.objs.size ≤ s.heap.objs.size)
   (X : (hd.heap_39 w.params).In g) (T : Top hd.view_39 loose mean mg mb g) (hh : A.handled = none) (hgd : A.guards = some []) (hdp : A.depth < 890) (hu : A.units < 8990)
   (B : Below A base outer g) (hw : way = Str.ofString "skip" ∨ way = Str.ofString "")
   (hx : s.heap.get? x = some (instObj 273 d)) (hxd : s.heap.get? d = some (dictOf [] 0))
   (gx : g.get? x = none) (gd : g.get? d = none) (dx : @LT.lt Nat _ d x)
   (hexc : ∀ h' tk' e a0, Heap.FlyingW base outer e (.type "ValueError") a0 h' → g.UpToSlots h' → R (.error (.ref e)) { s with heap := h', toks := tk' }) :
   codeAny (model prog w) A (.call (.ref 262) ⟨[.ref x, .none, .str way t1], []⟩) R s := by
  w_top off
  obtain ⟨hd0, dp, fr, gd0, un⟩ := A
  obtain rfl : hd0 = none := hh
  replace hgd : gd0 = some [] := hgd
  replace hdp : dp < 890 := hdp
  replace hu : un < 8990 := hu
  have hroom : dp < recursionLimit := Nat.lt_of_lt_of_le hdp (by decide)
  have Xs := X.keeps hg
  k_dflt (refine' enterG hg hsz ?k1 ?k2 (news := [(x, instObj 273 d), (d, dictOf [] 0)]) ?kN ?k6 ?k7 ?k8 ?k9 ?kB ?_ ?c2 ?c3 ?c4 ?c5; (case k1 => assumption); (case k2 => exact Top.nolimit (by assumption)); (case kN => intro p hp; simp only [List.mem_cons, List.not_mem_nil, or_false] at hp; rcases hp with rfl | rfl <;> constructor <;> assumption); (case k6 => k_is); (case k7 => k_is); (case k8 => assumption); (case k9 => first | exact BindsTo.of_eq rfl | exact binds_K (by assumption) rfl (by k_is) rfl rfl rfl); (case c5 => decide); (case kB => exact locs rfl); (case c2 => exact rfl); (case c3 => exact rfl); (case c4 => exact rfl); k_whole)
  intro L h1 F Nw
  dsimp only
  generalize s.toks + _ = tk0
  replace F : Fr g L h1 (fun y => List.lookup y [(Str.ofString "errors", .str way t1), (Str.ofString "stream", .none), (Str.ofString "self", .ref x)]) := F
  clear hx hxd hsz hg Xs
  have hfr := B.stack
  dsimp only at hfr
  subst hfr
  rcases hw with rfl | rfl
  all_goals k_steps
  all_goals
    rename RaisedN _ _ _ _ _ _ => R9
    rename Heap.UpToSlots _ _ => U9
    obtain ⟨B9, a0, hB9, _, fl9⟩ := R9
    exact hexc _ _ _ _ (flyingW_base hB9 fl9) U9
theorem inst_bad {Q : Value → Shared → Prop} {E : Value → Shared → Prop} {g0 : Heap} {way : Str} {t1 : Tok} (hg0 : g0.StaysIn s.heap) (X : (hd.heap_39 w.params).In g0) (T : Top hd.view_39 loose mean mg mb g0) (hh : A.handled = none) (hgd : A.guards = some []) (hdp : A.depth < 880) (hu : A.units < 8980)
    (B : Below A base outer g0) (hw : way = Str.ofString "skip" ∨ way = Str.ofString "")
    (h : ∀ h' tk' e a0, Heap.FlyingW base outer e (.type "ValueError") a0 h' → g0.UpToSlots h' → E (.ref e) { s with heap := h', toks := tk' }) :
    wpAny (model prog w) A (call (.ref 273) [.none, .str way t1]) Q E s := by
  w_top off
  obtain ⟨hp, g, d, t, os⟩ := s
  have e1 : ((hp.push emptyDict).push (instObj 273 hp.objs.size)).get? (hp.objs.size + 1) = some (instObj 273 hp.objs.size) := by heap_get
  have e2 : ((hp.push emptyDict).push (instObj 273 hp.objs.size)).get? hp.objs.size = some emptyDict := Heap.get?_push_of_some _ (Heap.get?_push_at rfl rfl)
  have k0 : g0.StaysIn (hideAll ((hp.push emptyDict).push (instObj 273 hp.objs.size)) [hp.objs.size + 1, hp.objs.size]) := made_stays (h' := hp) hg0 fun a ha => by
    simp only [List.mem_cons, List.not_mem_nil, or_false] at ha
    rcases ha with rfl | rfl
    · exact made_none hg0 (Nat.le_succ _)
    · exact made_none hg0 (Nat.le_refl _)
  have Xg := X.keeps hg0
  have hm : makesIn (hd.heap_39 w.params) 273 = true := by k_is
  have hi : findIn (hd.heap_39 w.params) (.ref 273) "__init__" = some (some (.ref 262)) := by k_is
  have hf : typeIn (hd.heap_39 w.params) (.ref 262) = some (.type "function") := by k_is
  refine wpAny_call (make_core (makes_of Xg hm) (looks_findIn Xg hi) (fun self => bind_fn Xg self hf) (.inl rfl) ?_)
  refine init_bad (g := hideAll ((hp.push emptyDict).push (instObj 273 hp.objs.size)) [hp.objs.size + 1, hp.objs.size]) (base := base) (outer := outer) (fun b o q => of_hideAll _ q) (Nat.le_of_eq (hideAll_size _ _)) (X.keeps k0) (T.keeps k0) hh ?_ ?_ ?_ ?_ hw e1 e2 (hideAll_none _ (by simp)) (hideAll_none _ (by simp)) (Nat.lt_succ_self _) ?_
  · unfold Around.under; rw [hgd]; rfl
  · show A.depth + 1 < 890; omega
  · show A.units + 1 < 8990; omega
  · exact ⟨by unfold Around.under; rw [B.stack]; rfl, fun b o q => k0 b o (B.stays b o q), B.frames.of_keeps fun b o hb _ => ⟨o, k0 b o hb, rfl⟩⟩
  intro h' tk' e a0 fl u
  exact h h' tk' e a0 fl ((Heap.UpToSlots.of_keeps k0).trans u)
end
end Mine
end
-- Sg
section
open PySem PySem.W PyProof.Rows
set_option linter.unusedVariables false
namespace Mine
section
variable {prog : Program} {w : World} {A : Around} {R : GenEnd} {Y : Protocol} {n : Nat} {s₀ : Shared} {fs : List Frame} {s : Shared} {env : Env} {c : Code}
  {K : Flow → Sem Fin} {H : Value → Sem Fin} {gd : Bool → Bool} {lv : List Value → List Value}
/-- the way on behind a part that came back -/
def backK (K : Flow → Sem Fin) (H : Value → Sem Fin) (gd : Bool → Bool) (lv : List Value → List Value) (env : Env) : Result → Sem Fin :=
  fun r => ((match r with | .ok f => (.pure f : Sem Flow) | .error e => .raise e).onRaise fun (x : Value) => do
        if (← field x 1) == Value.none then unsupported "frame.own-activation:exception-without-traceback"
        setFlight x env.frame).wrap K H gd lv
theorem backK_ok (f : Flow) : backK K H gd lv env (.ok f) = K f := rfl
theorem seg_For {target iter : Expr} {body orelse : List Stmt} {pos : Pos}
    (h : wpAny (model prog w) (A.over c fs) (eval iter env) (fun x s₁ => wpAny (model prog w) (A.over c fs) (pyIter x) (fun it s₂ =>
      ∀ p, Seg (model prog w) A R Y n s₀ (.forLoop target it body orelse env) ((model prog w).den (.forLoop target it body orelse env))
        (.ret (backK K H gd lv env) none (gd false) (lv []) c p [] :: fs) s₂) (fun _ _ => False) s₁) (fun _ _ => False) s)
    (hs : ∀ x, foldedSetIterable iter env x = pure x := by intro _; rfl) :
    Seg (model prog w) A R Y n s₀ c ((exec (.For target iter body orelse pos) env).wrap K H gd lv) fs s := by
  have e : exec (.For target iter body orelse pos) env = ((do
    standAt pos
    let x ← eval iter env
    let x ← foldedSetIterable iter env x
    standAt iter.pos
    holding [x] (pyIter x)) >>= fun it => runOwn (.forLoop target it body orelse env) env) := by
    rw [exec_For]
    simp only [bind_assoc]
  rw [e, Sem.bind_eq_wrap', Sem.wrap_wrap]
  refine seg_wrap (m := (do
    standAt pos
    let x ← eval iter env
    let x ← foldedSetIterable iter env x
    standAt iter.pos
    holding [x] (pyIter x))) ?_
  refine wpAny_bind (wpAny_standAt (wpAny_bind (wpAny_mono h (fun x s₁ h₁ => ?_) fun _ _ q => q.elim)))
  refine wpAny_bind (wpAny_of_eq (hs x) (wpAny_bind (wpAny_standAt (wpAny_holding (wpAny_mono h₁ (fun it s₂ h₂ => ?_) fun _ _ q => q.elim)))))
  exact seg_call h₂
theorem seg_raise {x : Value} {k : Result → Sem Fin} {hd : Option Value} {g : Bool} {l : List Value} {c₁ : Code} {p₁ : Pos} {kp : List Value} (hk : Seg (model prog w) A R Y n s₀ c₁ (k (.error x)) fs s) :
    Seg (model prog w) A R Y n s₀ c (.raise x) (.ret k hd g l c₁ p₁ kp :: fs) s := seg_leaf (.error x) hk
theorem seg_done {f : Flow} {k : Result → Sem Fin} {hd : Option Value} {g : Bool} {l : List Value} {c₁ : Code} {p₁ : Pos} {kp : List Value} (hk : Seg (model prog w) A R Y n s₀ c₁ (k (.ok f)) fs s) :
    Seg (model prog w) A R Y n s₀ c (.pure (.done f)) (.ret k hd g l c₁ p₁ kp :: fs) s := seg_leaf (.ok f) hk
/-- a turn of a for loop goes on -/
def turnK (target : Expr) (it : Value) (body orelse : List Stmt) (env : Env) : Flow → Sem Fin := fun f => match f with
  | .next | .cont => .pure (.again (.forLoop target it body orelse env))
  | .brk => .pure (.done .next)
  | .ret v => .pure (.done (.ret v))
def turnH (env : Env) : Value → Sem Fin := fun e => (do noteFrame e env; theTreesLotGoes e : Sem Unit).wrap (fun _ => .raise e) .raise id id
theorem seg_forLoop {target : Expr} {it : Value} {body orelse : List Stmt}
    (h : wpAny (model prog w) (A.over (.forLoop target it body orelse env) fs) (pyNext it) (fun r s₁ => match r with
      | none => Seg (model prog w) A R Y n s₀ (.block orelse env) ((model prog w).den (.block orelse env)) fs s₁
      | some v => wpAny (model prog w) (A.over (.forLoop target it body orelse env) fs) (assign target env v) (fun _ s₂ =>
          Seg (model prog w) A R Y n s₀ (.forLoop target it body orelse env) ((execs body env).wrap (turnK target it body orelse env) (turnH env) id id) fs s₂) (fun _ _ => False) s₁) (fun _ _ => False) s)
    (ht : ∀ v, letOwnedTupleGo target it v = pure () := by intro _; rfl) :
    Seg (model prog w) A R Y n s₀ (.forLoop target it body orelse env) ((model prog w).den (.forLoop target it body orelse env)) fs s := by
  show Seg _ A R Y n s₀ _ ((forTurn target it body orelse env).onRaise (fun x => do noteFrame x env; theTreesLotGoes x)) fs s
  have e : forTurn target it body orelse env = ((do
    standAt target.pos
    let r ← (pyNext it).onRaise (fun _ => standAt { target.pos with line := 0 })
    match r with
    | none => pure none
    | some v => do
      letOwnedTupleGo target it v
      assign target env v
      pure (some v)) >>= fun (r : Option Value) => match r with
    | none => (Sem.pure (.again (.block orelse env)) : Sem Fin)
    | some v => (execs body env).bind fun f => turnK target it body orelse env f) := by
    unfold forTurn
    simp only [bind_assoc]
    refine congrArg _ (funext fun _ => congrArg _ (funext fun r => ?_))
    cases r with
    | none => rfl
    | some v =>
      simp only [bind_assoc, pure_bind]
      refine congrArg _ (funext fun _ => congrArg _ (funext fun _ => ?_))
      show Sem.bind _ _ = Sem.bind _ _
      refine congrArg _ (funext fun f => ?_)
      cases f <;> rfl
  rw [e, Sem.onRaise_eq_wrap, Sem.bind_eq_wrap', Sem.wrap_wrap]
  refine seg_wrap ?_
  refine wpAny_bind (wpAny_standAt (wpAny_bind (wpAny_onRaise (wpAny_mono h (fun r s₁ h₁ => ?_) fun _ _ q => q.elim))))
  cases r with
  | none => exact wpAny_pure (seg_again rfl h₁)
  | some v =>
    refine wpAny_bind (wpAny_of_eq (ht v) (wpAny_bind (wpAny_mono h₁ (fun _ s₂ h₂ => wpAny_pure ?_) fun _ _ q => q.elim)))
    show Seg _ A R Y n s₀ _ (((execs body env).bind fun f => turnK target it body orelse env f).wrap _ _ _ _) fs s₂
    rw [Sem.bind_eq_wrap, Sem.wrap_wrap]
    rw [Sem.wrap_congr (execs body env) _ _ (K' := turnK target it body orelse env) (H' := turnH env) (fun f => by cases f <;> rfl) (fun e => by
      unfold turnH
      rw [← Sem.bind_eq_wrap]; rfl)]
    exact h₂
theorem seg_block_nil (h : Seg (model prog w) A R Y n s₀ (.block [] env) (.pure (.done .next)) fs s) :
    Seg (model prog w) A R Y n s₀ (.block [] env) ((model prog w).den (.block [] env)) fs s := h
theorem seg_turnH {x : Value} (h : wpAny (model prog w) (A.over c fs) (noteFrame x env) (fun _ s' => Seg (model prog w) A R Y n s₀ c (.raise x) fs s') (fun _ _ => False) s) :
    Seg (model prog w) A R Y n s₀ c (turnH env x) fs s :=
  seg_wrap (wpAny_bind (wpAny_mono h (fun _ s' h' => wpAny_theTreesLotGoes h') fun _ _ q => q.elim))
theorem seg_backK_error {x : Value} (h : wpAny (model prog w) (A.over c fs) (do
        if (← field x 1) == Value.none then unsupported "frame.own-activation:exception-without-traceback"
        setFlight x env.frame : Sem Unit) (fun _ s' => Seg (model prog w) A R Y n s₀ c (H x) fs s') (fun _ _ => False) s) :
    Seg (model prog w) A R Y n s₀ c (backK K H gd lv env (.error x)) fs s := by
  show Seg _ A R Y n s₀ c (((Sem.raise x : Sem Flow).onRaise _).wrap K H gd lv) fs s
  have e : ((Sem.raise x : Sem Flow).onRaise (fun (x : Value) => do
        if (← field x 1) == Value.none then unsupported "frame.own-activation:exception-without-traceback"
        setFlight x env.frame)) = ((do
        if (← field x 1) == Value.none then unsupported "frame.own-activation:exception-without-traceback"
        setFlight x env.frame : Sem Unit).bind fun _ => .raise x) := rfl
  rw [e, Sem.bind_eq_wrap, Sem.wrap_wrap]
  exact seg_wrap (wpAny_mono h (fun _ s' h' => h') fun _ _ q => q.elim)
end
end Mine
end
-- Hv
section
local macro_rules | `(tactic| walk_at "mine no such step") => `(tactic| skip)
local macro_rules | `(tactic| walk_at "mine no such step") => `(tactic| skip)
local macro_rules | `(tactic| walk_at "mine no such step") => `(tactic| skip)
local macro_rules | `(tactic| walk_at "mine no such step") => `(tactic| skip)
local macro_rules | `(tactic| walk_at "mine no such step") => `(tactic| skip)
local macro_rules | `(tactic| walk_at "mine no such step") => `(tactic| skip)
local macro_rules | `(tactic| walk_at "mine no such step") => `(tactic| skip)
local macro_rules | `(tactic| walk_at "mine no such step") => `(tactic| skip)
local macro_rules | `(tactic| walk_at "mine no such step") => `(tactic| skip)
local macro_rules | `(tactic| walk_at "mine no such step") => `(tactic| skip)
local macro_rules | `(tactic| walk_at "mine no such step") => `(tactic| skip)
local macro_rules | `(tactic| walk_at "mine no such step") => `(tactic| skip)
local macro_rules | `(tactic| walk_at "mine no such step") => `(tactic| skip)
local macro_rules | `(tactic| walk_at "mine no such step") => `(tactic| skip)
local macro_rules | `(tactic| walk_at "mine no such step") => `(tactic| skip)
local macro_rules | `(tactic| walk_at "mine no such step") => `(tactic| skip)
local macro_rules | `(tactic| walk_at "mine no such step") => `(tactic| skip)
local macro_rules | `(tactic| walk_at "mine no such step") => `(tactic| skip)
local macro_rules | `(tactic| walk_at "mine no such step") => `(tactic| skip)
local macro_rules | `(tactic| walk_at "mine no such step") => `(tactic| skip)
local macro_rules | `(tactic| walk_at "mine no such step") => `(tactic| skip)
local macro_rules | `(tactic| walk_at "mine no such step") => `(tactic| skip)
local macro_rules | `(tactic| walk_at "mine no such step") => `(tactic| skip)
local macro_rules | `(tactic| walk_at "mine no such step") => `(tactic| skip)
local macro_rules | `(tactic| walk_at "mine no such step") => `(tactic| skip)
local macro_rules | `(tactic| walk_at "mine no such step") => `(tactic| skip)
local macro_rules | `(tactic| walk_at "mine no such step") => `(tactic| skip)
local macro_rules | `(tactic| walk_at "mine no such step") => `(tactic| skip)
local macro_rules | `(tactic| walk_at "mine no such step") => `(tactic| skip)
local macro_rules | `(tactic| walk_at "mine no such step") => `(tactic| skip)
local macro_rules | `(tactic| walk_at "mine no such step") => `(tactic| skip)
local macro_rules | `(tactic| walk_at "mine no such step") => `(tactic| skip)
local macro_rules | `(tactic| walk_at "mine no such step") => `(tactic| skip)
local macro_rules | `(tactic| walk_at "mine no such step") => `(tactic| skip)
local macro_rules | `(tactic| walk_at "mine no such step") => `(tactic| skip)
local macro_rules | `(tactic| walk_at "mine no such step") => `(tactic| skip)
local macro_rules | `(tactic| walk_at "mine no such step") => `(tactic| skip)
local macro_rules | `(tactic| walk_at "mine no such step") => `(tactic| skip)
local macro_rules | `(tactic| walk_at "mine no such step") => `(tactic| skip)
local macro_rules | `(tactic| walk_at "mine no such step") => `(tactic| skip)
open PySem PySem.W PyProof.Rows
set_option linter.unusedVariables false
namespace Mine
/-- a heap without the objects at the hidden places -/
def hideH (p : Nat → Bool) (h : Heap) : Heap := ⟨h.objs.mapIdx fun i o => if p i = true then { o with data := .freed } else o, h.life⟩
section
variable {p : Nat → Bool} {h h' base : Heap} {a L : Addr} {o : Obj} {sk : List Addr} {m : Str → Option Value}
theorem hide_size : (hideH p h).objs.size = h.objs.size := by unfold hideH; simp
theorem hide_get : (hideH p h).get? a = if p a = true then none else h.get? a := by
  unfold hideH Heap.get?
  simp only [Array.getElem?_mapIdx]
  cases h.objs[a]? with
  | none => simp
  | some o =>
    simp only [Option.map_some]
    by_cases q : p a = true
    · rw [if_pos q, if_pos q]
    · rw [if_neg q, if_neg q]
theorem hide_none (q : p a = true) : (hideH p h).get? a = none := by rw [hide_get, if_pos q]
theorem hide_some (q : p a = false) : (hideH p h).get? a = h.get? a := by rw [hide_get, if_neg (by rw [q]; decide)]
theorem hide_stays : (hideH p h).StaysIn h := fun b o e => by
  rw [hide_get] at e
  split at e
  · cases e
  · exact e
theorem stays_hide (k : base.StaysIn h) (n : ∀ a, p a = true → base.get? a = none) : base.StaysIn (hideH p h) := fun b o e => by
  rw [hide_get]
  split
  · rename_i q; rw [n b q] at e; cases e
  · exact k b o e
/-- all of h but what lies at sk and in base -/
def restOf (base h : Heap) (sk : List Addr) : List (Addr × Obj) :=
  (List.range h.objs.size).filterMap fun b => if sk.contains b || (base.get? b).isSome then none else (h.get? b).map fun o => (b, o)
theorem mem_rest : (a, o) ∈ restOf base h sk ↔ a ∉ sk ∧ base.get? a = none ∧ h.get? a = some o := by
  unfold restOf
  simp only [List.mem_filterMap, List.mem_range]
  constructor
  · rintro ⟨b, hb, e⟩
    split at e
    · cases e
    · rename_i q
      simp only [Bool.or_eq_true, not_or, List.contains_iff_mem, Bool.not_eq_true, Option.isSome_eq_false_iff, Option.isNone_iff_eq_none] at q
      cases g : h.get? b with
      | none => rw [g] at e; cases e
      | some o' =>
        rw [g] at e
        cases e
        exact ⟨q.1, q.2, g⟩
  · rintro ⟨x, y, z⟩
    refine ⟨a, Heap.lt_size z, ?_⟩
    rw [if_neg (by simp [x, y]), z]
    rfl
theorem rest_ne : ∀ q ∈ restOf base h sk, q.1 ∉ sk := fun ⟨a, o⟩ hq => (mem_rest.mp hq).1
theorem rest_news (hL : L ∈ sk) : News base L h (restOf base h sk) := fun ⟨a, o⟩ hq =>
  let ⟨x, y, z⟩ := mem_rest.mp hq
  ⟨z, fun e => x (by rw [show a = L from e]; exact hL), y⟩
/-- all stays but what lies at sk -/
def KeepBut (sk : List Addr) (h h' : Heap) : Prop := ∀ b o, b ∉ sk → h.get? b = some o → h'.get? b = some o
theorem KeepBut.refl : KeepBut sk h h := fun _ _ _ e => e
theorem KeepBut.trans {h'' : Heap} (x : KeepBut sk h h') (y : KeepBut sk h' h'') : KeepBut sk h h'' := fun b o n e => y b o n (x b o n e)
theorem KeepBut.mono {sk' : List Addr} (x : KeepBut sk h h') (k : ∀ b ∈ sk, b ∈ sk') : KeepBut sk' h h' := fun b o n e => x b o (fun q => n (k b q)) e
theorem KeepBut.of_stays (k : h.StaysIn h') : KeepBut sk h h' := fun b o _ e => k b o e
theorem keepBut_of {news : List (Addr × Obj)} (F : Fr base L h' m) (N : News base L h' news) (k : ∀ q ∈ restOf base h sk, q ∈ news) (hb : base.StaysIn h) : KeepBut sk h h' := fun b o n e => by
  cases g : base.get? b with
  | none => exact (N _ (k _ (mem_rest.mpr ⟨n, g, e⟩))).1
  | some o' =>
    have := hb b o' g
    rw [e] at this
    cases this
    exact F.keep b _ g
theorem rest_some (n : a ∉ sk) (hb : base.get? a = none) (e : h.get? a = some o) : (a, o) ∈ restOf base h sk := mem_rest.mpr ⟨n, hb, e⟩
end
end Mine
end
-- Ca
section
open PySem PySem.W PyProof.Rows
set_option linter.unusedVariables false
namespace Mine
section
variable {M : Model} {A : Around} {E : Value → Shared → Prop}
variable {nm q nm' q' : Str} {C N D N' : Addr} {bs bm bs' bm' : List Value} {hdct hdct' : Bool} {sn sn' : List Str} {sub sub' : List Value} {ab ab' : Bool} {col col' : Option Bool} {dd dd' : Option Addr} {k0 k1 k2 k3 k5 l0 l1 l2 l3 l5 : Option Value} {newId newId' : String}
theorem excMatches_own {h : Heap} {g : Array GenState} {d : Drawn} {t : Nat} {os : OsState} {e : Addr} {oe : Obj} {b : Bool} {Q : Bool → Shared → Prop}
    (hC : h.get? C = some (excClassObj nm q C N bs bm hdct sn sub ab col dd k0 k1 k2 k3 k5 newId)) (hD : h.get? D = some (excClassObj nm' q' D N' bs' bm' hdct' sn' sub' ab' col' dd' l0 l1 l2 l3 l5 newId'))
    (he : h.get? e = some oe) (hcls : oe.cls = .ref C) (hbase : bm'.contains (.type "BaseException") = true) (hb : (Value.ref C :: bm).contains (.ref D) = b)
    (hq : Q b ⟨h, g, d, t, os⟩) : wpAny M A (excMatches (.ref e) (.ref D)) Q E ⟨h, g, d, t, os⟩ := by
  have hcB : (Value.ref D :: bm').contains (.type "BaseException") = true := by rw [List.contains_cons, hbase, Bool.or_true]
  have f := tc_notTuple
  unfold excMatches
  repeat (first | (with_reducible refine wpAny_loadPart_at he ?_; rw [hcls]) | with_reducible refine wpAny_loadPart_at hD ?_ | (with_reducible refine wpAny_isSubtype_exc hD ?_; rw [hcB]) | (with_reducible refine wpAny_isSubtype_exc hC ?_; rw [hb]) | wp_step)
  cases b <;> (wp_walk; exact hq)
end
section
variable {prog : Program} {w : World} {A : Around} {E : Value → Shared → Prop} {s : Shared} {env : Env}
variable {nm q nm' q' : Str} {C N D N' : Addr} {bs bm bs' bm' : List Value} {hdct hdct' : Bool} {sn sn' : List Str} {sub sub' : List Value} {ab ab' : Bool} {col col' : Option Bool} {dd dd' : Option Addr} {k0 k1 k2 k3 k5 l0 l1 l2 l3 l5 : Option Value} {newId newId' : String}
variable {e : Addr} {oe : Obj} {t : Expr} {b₀ : Stmt} {suite : List Stmt} {pos : Pos} {rest : List ExceptHandler} {Q : Flow → Shared → Prop}
theorem clause_miss_own {n : Option Str} (hn : ∀ (Q : Value → Shared → Prop) E, Q (.ref D) s → wpAny (model prog w) (A.mark (some (.ref e))) (eval t env) Q E s)
    (hC : s.heap.get? C = some (excClassObj nm q C N bs bm hdct sn sub ab col dd k0 k1 k2 k3 k5 newId)) (hD : s.heap.get? D = some (excClassObj nm' q' D N' bs' bm' hdct' sn' sub' ab' col' dd' l0 l1 l2 l3 l5 newId'))
    (he : s.heap.get? e = some oe) (hcls : oe.cls = .ref C) (hbase : bm'.contains (.type "BaseException") = true) (hb : (Value.ref C :: bm).contains (.ref D) = false)
    (h : wpAny (model prog w) A (handleBy (.ref e) env rest) Q E s) :
    wpAny (model prog w) A (handleBy (.ref e) env (.ExceptHandler (some t) n (b₀ :: suite) pos :: rest)) Q E s := by
  refine wpAny_handleBy_cons (codeAny_handlers_test (hn _ _ ?_)) (by intro q; cases q)
  obtain ⟨hh, g, d, tk, os⟩ := s
  exact excMatches_own hC hD he hcls hbase hb h
theorem clause_hit_own (hn : ∀ (Q : Value → Shared → Prop) E, Q (.ref D) s → wpAny (model prog w) (A.mark (some (.ref e))) (eval t env) Q E s)
    (hC : s.heap.get? C = some (excClassObj nm q C N bs bm hdct sn sub ab col dd k0 k1 k2 k3 k5 newId)) (hD : s.heap.get? D = some (excClassObj nm' q' D N' bs' bm' hdct' sn' sub' ab' col' dd' l0 l1 l2 l3 l5 newId'))
    (he : s.heap.get? e = some oe) (hcls : oe.cls = .ref C) (hbase : bm'.contains (.type "BaseException") = true) (hb : (Value.ref C :: bm).contains (.ref D) = true)
    (h : wpAny (model prog w) (A.mark (some (.ref e))) (setFlight (.ref e) none) (fun _ s₁ => wpAny (model prog w) (A.mark (some (.ref e))) (execs (b₀ :: suite) env) Q (fun _ _ => False) s₁) (fun _ _ => False) s) :
    wpAny (model prog w) A (handleBy (.ref e) env (.ExceptHandler (some t) none (b₀ :: suite) pos :: rest)) Q E s := by
  refine wpAny_handleBy_cons (codeAny_handlers_test (hn _ _ ?_)) (by intro q; cases q)
  obtain ⟨hh, g, d, tk, os⟩ := s
  refine excMatches_own hC hD he hcls hbase hb (codeAny_handlers_suite ?_)
  exact wpAny_mono h (fun _ s₁ h₁ => wpAny_mono h₁ (fun f s₂ h₂ => h₂) fun _ _ x => x.elim) fun _ _ x => x.elim
theorem clause_hit_own_as {n : Str} (hn : ∀ (Q : Value → Shared → Prop) E, Q (.ref D) s → wpAny (model prog w) (A.mark (some (.ref e))) (eval t env) Q E s)
    (hC : s.heap.get? C = some (excClassObj nm q C N bs bm hdct sn sub ab col dd k0 k1 k2 k3 k5 newId)) (hD : s.heap.get? D = some (excClassObj nm' q' D N' bs' bm' hdct' sn' sub' ab' col' dd' l0 l1 l2 l3 l5 newId'))
    (he : s.heap.get? e = some oe) (hcls : oe.cls = .ref C) (hbase : bm'.contains (.type "BaseException") = true) (hb : (Value.ref C :: bm).contains (.ref D) = true)
    (h : wpAny (model prog w) (A.mark (some (.ref e))) (setFlight (.ref e) none) (fun _ s₁ => wpAny (model prog w) (A.mark (some (.ref e))) (storeName env n (.ref e)) (fun _ s₂ =>
        wpAny (model prog w) (A.mark (some (.ref e))) (execs (b₀ :: suite) env)
          (fun f s₃ => wpAny (model prog w) A (do bindName env n .none; unbindBehindTheSuite env n pos) (fun _ s₄ => Q f s₄) E s₃)
          (AsSuiteRaised (model prog w) (A.mark (some (.ref e))) env n pos (notedBy (model prog w) (A.mark (some (.ref e))) env (cameBackBy (model prog w) A env E))) s₂) (fun _ _ => False) s₁) (fun _ _ => False) s) :
    wpAny (model prog w) A (handleBy (.ref e) env (.ExceptHandler (some t) (some n) (b₀ :: suite) pos :: rest)) Q E s := by
  refine wpAny_handleBy_cons (codeAny_handlers_test (hn _ _ ?_)) (by intro q; cases q)
  obtain ⟨hh, g, d, tk, os⟩ := s
  refine excMatches_own hC hD he hcls hbase hb (codeAny_handlers_suite_as ?_)
  exact wpAny_mono h (fun _ s₁ h₁ => wpAny_mono h₁ (fun f s₂ h₂ => h₂) fun _ _ x => x.elim) fun _ _ x => x.elim
end
section
variable {base h h' : Heap} {l outer : List Env} {e L : Addr} {cls a0 fl : Value} {m : Str → Option Value} {env : Env}
theorem ns_notFields (hn : h'.Ns L m) : ∃ o, h'.get? L = some o ∧ ∀ vs, o.data ≠ .fields vs := by
  obtain ⟨o, es, ep, ho, hd, _⟩ := hn
  exact ⟨o, ho, fun vs q => by rw [hd] at q; cases q⟩
theorem funFrames_set (hl : h.FunFrames base l) (hn : h'.Ns L m) (hs : Heap.SameBut L h h') : h'.FunFrames base l := by
  induction l with
  | nil => trivial
  | cons env rest ih =>
    obtain ⟨hk, ⟨L', o, hf, hb, ho, hd⟩, hr⟩ := hl
    refine ⟨hk, ?_, ih hr⟩
    by_cases q : L' = L
    · subst q
      obtain ⟨o', ho', hd'⟩ := ns_notFields hn
      exact ⟨L', o', hf, hb, ho', hd'⟩
    · exact ⟨L', o, hf, hb, (hs.2 L' q).trans ho, hd⟩
theorem traced_set (ht : h.TracedAtW base e cls a0 fl) (hno : ∃ o, h.get? L = some o ∧ ∀ vs, o.data ≠ .fields vs) (hs : Heap.SameBut L h h') : h'.TracedAtW base e cls a0 fl := by
  obtain ⟨oe, vs, T, oT, ts, he, hc, hd, h1, hb, hne, hT, hdT, h3⟩ := ht
  obtain ⟨o, ho, hd'⟩ := hno
  refine ⟨oe, vs, T, oT, ts, (hs.2 e fun q => ?_).trans he, hc, hd, h1, hb, hne, (hs.2 T fun q => ?_).trans hT, hdT, h3⟩
  · subst q; rw [he] at ho; cases ho; exact hd' _ hd
  · subst q; rw [hT] at ho; cases ho; exact hd' _ hdT
theorem stays_set (k : base.StaysIn h) (hb : base.get? L = none) (hs : Heap.SameBut L h h') : base.StaysIn h' := fun b o q =>
  (hs.2 b fun x => by subst x; rw [hb] at q; cases q).trans (k b o q)
theorem flying_set (hfl : Heap.FlyingW base l e cls a0 h) (hb : base.get? L = none) (hno : h.Ns L m) {m' : Str → Option Value} (hn : h'.Ns L m') (hs : Heap.SameBut L h h') : Heap.FlyingW base l e cls a0 h' :=
  let ⟨f1, f2, f3, f4⟩ := hfl
  ⟨stays_set f1 hb hs, f2, funFrames_set f3 hn hs, traced_set (fl := .none) f4 (ns_notFields hno) hs⟩
theorem held_set {L' : Addr} (hfl : Heap.HeldW base l e cls a0 L' h) (hb : base.get? L = none) (hno : h.Ns L m) {m' : Str → Option Value} (hn : h'.Ns L m') (hs : Heap.SameBut L h h') : Heap.HeldW base l e cls a0 L' h' :=
  let ⟨f1, f2, f3, f4⟩ := hfl
  ⟨stays_set f1 hb hs, f2, funFrames_set f3 hn hs, traced_set f4 (ns_notFields hno) hs⟩
end
section
variable {prog : Program} {w : World} {A : Around} {E : Value → Shared → Prop} {s : Shared} {env : Env} {base : Heap} {l outer : List Env} {e L : Addr} {cls a0 fl : Value}
/-- the flight marked at a frame -/
theorem setFlight_at {Q : Unit → Shared → Prop} (hf : env.frame = some L) (hkb : base.StaysIn s.heap) (hen : base.get? e = none) (hl : s.heap.FunFrames base l) (ht : s.heap.TracedAtW base e cls a0 fl)
    (h : ∀ h', Heap.HeldW base l e cls a0 L h' → s.heap.UpToSlots h' → Q () { s with heap := h' }) : wpAny (model prog w) A (setFlight (.ref e) env.frame) Q E s := by
  obtain ⟨oe, vs, T, oT, ts, he, hcls, hd, h1, hnT, hTe, hT, hdT, h3⟩ := ht
  have hsz3 : 3 < ts.size := (Array.getElem?_eq_some_iff.mp h3).1
  have other : ∀ b, b ≠ T → (s.heap.update T (Obj.mapFields (·.setIfInBounds 3 ((some L).elim Value.none fun f => rawInt f)))).get? b = s.heap.get? b :=
    fun b hb => Heap.get?_update_other _ _ (Ne.symm hb)
  have noRecord : ∀ b o, s.heap.get? b = some o → (∀ vs, o.data ≠ .fields vs) → b ≠ T := fun b o hb hnf q => by
    rw [q, hT] at hb; injection hb with hb; subst hb; exact hnf ts hdT
  unfold setFlight
  rw [hf]
  refine wpAny_bind (wpAny_field he hd h1 ?_)
  rw [if_pos (show (Value.ref T != Value.none) = true from by simp)]
  refine wpAny_setField hT hdT hsz3 (h _ ⟨fun b o hbo => (other b fun q => by rw [q, hnT] at hbo; cases hbo).trans (hkb b o hbo), hen,
    (hl.of_keeps fun b o hb hnf => ⟨o, (other b (noRecord b o hb hnf)).trans hb, rfl⟩), ?_⟩ fun b o hb hnf => ⟨o.slots, (other b (noRecord b o hb hnf)).trans hb⟩)
  exact ⟨oe, vs, T, _, _, (other e (Ne.symm hTe)).trans he, hcls, hd, h1, hnT, hTe, Heap.get?_update_self _ hT (Obj.isFreed_of_fields (Obj.data_mapFields hdT _)), Obj.data_mapFields hdT _, by simp [hsz3]⟩
theorem cameBack_at (hf : env.frame = some L) (hh : Heap.HeldW base l e cls a0 L s.heap)
    (h : ∀ h', Heap.HeldW base l e cls a0 L h' → s.heap.UpToSlots h' → E (.ref e) { s with heap := h' }) : cameBackBy (model prog w) A env E (.ref e) s := by
  have hh' := hh
  obtain ⟨f1, f2, f3, oe, vs, T, oT, ts, he, hcls, hd, h1, r⟩ := hh'
  show wpAny _ _ _ _ _ s
  refine wpAny_bind (wpAny_field he hd h1 ?_)
  rw [if_neg (show ¬ ((Value.ref T == Value.none) = true) from Bool.false_ne_true)]
  exact setFlight_at hf f1 f2 f3 hh.2.2.2 h
theorem passOn_at {α : Type} {what : String} {Q : α → Shared → Prop} (hf : env.frame = some L) (hh : Heap.HeldW base l e cls a0 L s.heap)
    (h : ∀ h', Heap.HeldW base l e cls a0 L h' → s.heap.UpToSlots h' → E (.ref e) { s with heap := h' }) : wpAny (model prog w) A (PySem.passOn what (.ref e) env : Sem α) Q E s := by
  have hh' := hh
  obtain ⟨f1, f2, f3, oe, vs, T, oT, ts, he, hcls, hd, h1, r⟩ := hh'
  unfold PySem.passOn
  refine wpAny_bind (wpAny_field he hd h1 ?_)
  rw [if_neg (show ¬ ((Value.ref T == Value.none) = true) from Bool.false_ne_true)]
  exact wpAny_bind (setFlight_at hf f1 f2 f3 hh.2.2.2 fun h' k u => wpAny_throw (h h' k u))
end
section
variable {prog : Program} {w : World} {A : Around} {E : Value → Shared → Prop} {s : Shared} {env : Env}
variable {nm q : Str} {C N : Addr} {bs bm : List Value} {hdct : Bool} {sn : List Str} {sub : List Value} {ab : Bool} {col : Option Bool} {dd : Option Addr} {k0 k1 k2 k3 k5 : Option Value} {newId : String}
variable {e : Addr} {oe : Obj} {x : Expr} {pos : Pos} {Q : Flow → Shared → Prop}
/-- what is handled is raised again -/
theorem raise_again {base : Heap} {l : List Env} {a0 : Value} (hh : A.handled = some (.ref e)) (hbase : bm.contains (.type "BaseException") = true) (hn : ∀ (Q : Value → Shared → Prop) E, Q (.ref e) s → wpAny (model prog w) A (eval x env) Q E s)
    (hC : s.heap.get? C = some (excClassObj nm q C N bs bm hdct sn sub ab col dd k0 k1 k2 k3 k5 newId)) (hfl : Heap.FlyingW base l e (.ref C) a0 s.heap)
    (h : ∀ h', Heap.FlyingW base l e (.ref C) a0 h' → s.heap.UpToSlots h' → E (.ref e) { s with heap := h' }) :
    wpAny (model prog w) A (exec (.Raise (some x) none pos) env) Q E s := by
  have hcB : (Value.ref C :: bm).contains (.type "BaseException") = true := by rw [List.contains_cons, hbase, Bool.or_true]
  rw [arm_exec_Raise]
  simp only [evalOpt, Option.map]
  refine wpAny_bind (wpAny_standAt ?_)
  unfold raiseStmt
  refine wpAny_bind (wpAny_bind (hn _ _ (wpAny_bind (wpAny_standAt (wpAny_pure ?_)))))
  obtain ⟨hp, g, d, tk, os⟩ := s
  obtain ⟨hkb, hen, hl, ⟨oe, vs, T, oT, ts, he, ⟨hcls, h0⟩, hd, h1, hnT, hTe, hT, hdT, h3⟩⟩ := hfl
  have hsz3 : 3 < ts.size := (Array.getElem?_eq_some_iff.mp h3).1
  have other : ∀ b, b ≠ T → (hp.update T (Obj.mapFields (·.setIfInBounds 3 ((none : Option Addr).elim Value.none fun f => rawInt f)))).get? b = hp.get? b :=
    fun b hb => Heap.get?_update_other _ _ (Ne.symm hb)
  have noRecord : ∀ b o, hp.get? b = some o → (∀ vs, o.data ≠ .fields vs) → b ≠ T := fun b o hb hnf q => by
    rw [q, show hp.get? T = some oT from hT] at hb; injection hb with hb; subst hb; exact hnf ts hdT
  have h' := h _ ⟨fun b o hbo => (other b fun q => by rw [q, hnT] at hbo; cases hbo).trans (hkb b o hbo), hen, (hl.of_keeps fun b o hb hnf => ⟨o, (other b (noRecord b o hb hnf)).trans hb, rfl⟩),
    ⟨oe, vs, T, _, _, (other e (Ne.symm hTe)).trans he, ⟨hcls, h0⟩, hd, h1, hnT, hTe, Heap.get?_update_self _ hT (Obj.isFreed_of_fields (Obj.data_mapFields hdT _)), Obj.data_mapFields hdT _, by simp [hsz3]⟩⟩
    fun b o hb hn => ⟨o.slots, (other b (noRecord b o hb hn)).trans hb⟩
  have hdc : ∀ cd, oe.data ≠ .cls cd := fun cd q => by rw [hd] at q; cases q
  unfold excFromValue isExcClass
  repeat (first | (with_reducible refine wpAny_loadPart_at he ?_; rw [hcls]) | with_reducible refine wpAny_loadPart_at he ?_ | with_reducible refine wpAny_loadPart_at hC ?_ | (with_reducible refine wpAny_isSubtype_exc hC ?_; rw [hcB]) | wp_step)
  rw [hd]
  refine wpAny_pure ?_
  rw [h1]
  refine wpAny_pure ?_
  rw [if_pos (show (Value.ref T != Value.none) = true from by simp)]
  refine wpAny_setField hT hdT hsz3 ?_
  unfold raiseNew
  refine wpAny_bind (wpAny_handled ?_)
  rw [hh]
  dsimp only
  rw [if_neg (by simp)]
  first | exact wpAny_throw h' | exact wpAny_bind (wpAny_pure (wpAny_throw h'))
end
end Mine
end
-- Gn1
section
local macro_rules | `(tactic| walk_at "mine no such step") => `(tactic| skip)
local macro_rules | `(tactic| walk_at "mine no such step") => `(tactic| skip)
local macro_rules | `(tactic| walk_at "mine no such step") => `(tactic| skip)
local macro_rules | `(tactic| walk_at "mine no such step") => `(tactic| skip)
local macro_rules | `(tactic| walk_at "mine no such step") => `(tactic| skip)
local macro_rules | `(tactic| walk_at "mine no such step") => `(tactic| skip)
local macro_rules | `(tactic| walk_at "mine no such step") => `(tactic| skip)
local macro_rules | `(tactic| walk_at "mine no such step") => `(tactic| skip)
local macro_rules | `(tactic| walk_at "mine no such step") => `(tactic| skip)
local macro_rules | `(tactic| walk_at "mine no such step") => `(tactic| skip)
local macro_rules | `(tactic| walk_at "mine no such step") => `(tactic| skip)
local macro_rules | `(tactic| walk_at "mine no such step") => `(tactic| skip)
local macro_rules | `(tactic| walk_at "mine no such step") => `(tactic| skip)
local macro_rules | `(tactic| walk_at "mine no such step") => `(tactic| skip)
local macro_rules | `(tactic| walk_at "mine no such step") => `(tactic| skip)
local macro_rules | `(tactic| walk_at "mine no such step") => `(tactic| skip)
local macro_rules | `(tactic| walk_at "mine no such step") => `(tactic| skip)
local macro_rules | `(tactic| walk_at "mine no such step") => `(tactic| skip)
local macro_rules | `(tactic| walk_at "mine no such step") => `(tactic| skip)
local macro_rules | `(tactic| walk_at "mine no such step") => `(tactic| skip)
local macro_rules | `(tactic| walk_at "mine no such step") => `(tactic| skip)
local macro_rules | `(tactic| walk_at "mine no such step") => `(tactic| skip)
local macro_rules | `(tactic| walk_at "mine no such step") => `(tactic| skip)
local macro_rules | `(tactic| walk_at "mine no such step") => `(tactic| skip)
local macro_rules | `(tactic| walk_at "mine no such step") => `(tactic| skip)
local macro_rules | `(tactic| walk_at "mine no such step") => `(tactic| skip)
local macro_rules | `(tactic| walk_at "mine no such step") => `(tactic| skip)
local macro_rules | `(tactic| walk_at "mine no such step") => `(tactic| skip)
local macro_rules | `(tactic| walk_at "mine no such step") => `(tactic| skip)
local macro_rules | `(tactic| walk_at "mine no such step") => `(tactic| skip)
local macro_rules | `(tactic| walk_at "mine no such step") => `(tactic| skip)
local macro_rules | `(tactic| walk_at "mine no such step") => `(tactic| skip)
local macro_rules | `(tactic| walk_at "mine no such step") => `(tactic| skip)
local macro_rules | `(tactic| walk_at "mine no such step") => `(tactic| skip)
local macro_rules | `(tactic| walk_at "mine no such step") => `(tactic| skip)
local macro_rules | `(tactic| walk_at "mine no such step") => `(tactic| skip)
local macro_rules | `(tactic| walk_at "mine no such step") => `(tactic| skip)
local macro_rules | `(tactic| walk_at "mine no such step") => `(tactic| skip)
local macro_rules | `(tactic| walk_at "mine no such step") => `(tactic| skip)
local macro_rules | `(tactic| walk_at "mine no such step") => `(tactic| skip)
open PySem PySem.W PyProof.Rows
set_option linter.unusedVariables false
namespace Mine
abbrev genObj (g : Nat) (n : Str) (t1 : Tok) (q : Str) (t2 : Tok) : Obj := { cls := .type "generator", data := .fields #[.int g 0, .str n t1, .str q t2] }
section
variable {prog : Program} {w : World} {A : Around} {s : Shared} {K : Frag} {R : Result → Shared → Prop} {g : Heap}
/-- a call of a def whose body yields: what is made -/
theorem enterY {name qual : Str} {params : Arguments} {body : List Stmt} {scope : Scope} {dV kV doc pm cdv ct oc : Value} {an od : Option Addr} {osl : Array (Option Value)} {f : Addr} {args : Args} {binds : List (Str × Value)}
    (hg : g.StaysIn s.heap) (X : K.In g) (hlim : g.NoLimit)
    (ho : K.lookup f = some ⟨oc, od, .func (fnOf name qual params body scope dV kV doc pm an cdv ct), osl⟩) (hcd : codeIn K cdv qual = true) (hroom : A.depth < recursionLimit)
    (hbind : BindsTo s (fnOf name qual params body scope dV kV doc pm an cdv ct) args binds) (hloc : ∀ y ∈ binds, scope.names.lookup y.1 = some .local)
    (h : ∀ L G h₁ t1 t2 tk, s.heap.objs.size ≤ L → L < G → h₁.Ns L (fun y => binds.reverse.lookup y) → s.heap.StaysIn h₁ → h₁.get? G = some (genObj s.gens.size name t1 qual t2) → (∀ b o, h₁.get? b = some o → s.heap.get? b = some o ∨ b = L ∨ b = G) →
      R (.ok (.ret (.ref G))) { s with gens := s.gens.push (.fresh (.func body (envOf qual scope L f cdv))), toks := tk, heap := h₁ })
    (hco : scope.isCoroutine = false) (hgen : scope.isGenerator = true) (hk : scope.kind = .function)
    (hcell : ∀ x ∈ scope.names, x.2 ≠ .cell) : codeAny (model prog w) A (.call (.ref f) args) R s := by
  refine codeAny_call_generator (fd := fnOf name qual params body scope dV kV doc pm an cdv ct) (body := body) hroom (hg _ _ (X _ _ ho)) rfl hco hgen rfl ((codeRec_of X hcd).keeps hg) (hbind _ _ _ _ ?_)
  refine wpAny_newFunctionEnv hcell hloc (fun h₁ hns hsb => ⟨(hlim.keeps hg).fresh _ hsb, ?_⟩) hk
  have hsz : h₁.objs.size = s.heap.objs.size + 1 := by rw [hsb.1, Heap.size_push]
  have k1 : s.heap.StaysIn h₁ := fun b o e => hsb.extBut b o (Nat.ne_of_lt (Heap.lt_size e)) (Heap.get?_push_of_some _ e)
  have ns' : (h₁.push (genObj s.gens.size name (s.toks + binds.length) qual (s.toks + binds.length + 1))).Ns s.heap.objs.size (fun y => binds.reverse.lookup y) := hns.keeps fun b o e => Heap.get?_push_of_some _ e
  refine h s.heap.objs.size h₁.objs.size _ _ _ _ (Nat.le_refl _) (by show @LT.lt Nat _ s.heap.objs.size h₁.objs.size; omega) ns' (fun b o e => Heap.get?_push_of_some _ (k1 b o e)) (Heap.get?_push_size _ rfl) fun b o e => ?_
  rcases Heap.get?_push_cases e with ⟨q1, _⟩ | e1
  · exact .inr (.inr q1)
  by_cases q2 : b = s.heap.objs.size
  · exact .inr (.inl q2)
  rw [hsb.2 b q2] at e1
  rcases Heap.get?_push_cases e1 with ⟨q1, _⟩ | e2
  · exact absurd q1 q2
  · exact .inl e2
end
section
variable {A : Around} {env : Env} {outer : List Env}
/-- what the way around of a turn is like -/
structure OkA (A : Around) (outer : List Env) (n : Nat) : Prop where
  handled : A.handled = none
  frames : A.frames = some outer
  depth : A.depth < n
  units : A.units < 10 * n
theorem OkA.func {body : List Stmt} {n : Nat} (h : OkA A outer n) : OkA (A.over (.func body env) []) (env :: outer) (n + 1) := by
  obtain ⟨a, b, c, d⟩ := h
  refine ⟨?_, ?_, ?_, ?_⟩
  · show (marksOver [] (A.handled, A.handled)).1 = none
    rw [a]; rfl
  · show pushEnvs (Code.func body env).envs (pushEnvs (envsOf ([] : List (Code × Pos))) A.frames) = _
    rw [b]; rfl
  · show A.depth + frameCount [] + (Code.func body env).weight < _
    rw [show frameCount [] = 0 from rfl, show (Code.func body env).weight = 1 from rfl]; omega
  · show A.units + unitsOf [] + (Code.func body env).cUnits < _
    rw [show unitsOf [] = 0 from rfl, show (Code.func body env).cUnits = 3 from rfl]; omega
theorem OkA.loop {body b2 b3 : List Stmt} {n : Nat} {tg : Expr} {it : Value} {k : Result → Sem Fin} {p : Pos} (h : OkA A outer n) : OkA (A.over (.forLoop tg it b2 b3 env) [.ret k none false [] (.func body env) p []]) (env :: outer) (n + 1) := by
  obtain ⟨a, b, c, d⟩ := h
  refine ⟨?_, ?_, ?_, ?_⟩
  · show (marksOver [.ret k none false [] (.func body env) p []] (A.handled, A.handled)).1 = none
    rw [a]; rfl
  · show pushEnvs (Code.forLoop tg it b2 b3 env).envs (pushEnvs (envsOf [(Code.func body env, p)]) A.frames) = _
    rw [b]; rfl
  · show A.depth + frameCount [(Code.func body env, p)] + (Code.forLoop tg it b2 b3 env).weight < _
    rw [show frameCount [(Code.func body env, p)] = 1 from rfl, show (Code.forLoop tg it b2 b3 env).weight = 0 from rfl]; omega
  · show A.units + unitsOf [(Code.func body env, p)] + (Code.forLoop tg it b2 b3 env).cUnits < _
    rw [show unitsOf [(Code.func body env, p)] = 3 from rfl, show (Code.forLoop tg it b2 b3 env).cUnits = 0 from rfl]; omega
end
section
variable {prog : Program} {w : World} {A : Around} {R : GenEnd} {Y : Protocol} {n : Nat} {s₀ : Shared} {fs : List Frame} {s : Shared} {env : Env} {c : Code}
  {K : Flow → Sem Fin} {H : Value → Sem Fin} {gd : Bool → Bool} {lv : List Value → List Value}
/-- a plain statement of a generator -/
theorem seg_cut {st : Stmt} {rest : List Stmt} (P : Shared → Prop) (h : wpAny (model prog w) (A.over c fs) (exec st env) (Nxt P) (fun _ _ => False) s)
    (h2 : ∀ s', P s' → Seg (model prog w) A R Y n s₀ c ((execs rest env).wrap K H gd lv) fs s') : Seg (model prog w) A R Y n s₀ c ((execs (st :: rest) env).wrap K H gd lv) fs s :=
  seg_execs_cons (seg_wrap (wpAny_mono h (fun f s' ⟨e, p⟩ => by subst e; exact h2 s' p) fun _ _ x => x.elim))
theorem seg_cutR {st : Stmt} {rest : List Stmt} (h : wpAny (model prog w) (A.over c fs) (exec st env) (fun f s' => Seg (model prog w) A R Y n s₀ c (match f with | .next => (execs rest env).wrap K H gd lv | f => K f) fs s') (fun x s' => Seg (model prog w) A R Y n s₀ c (H x) fs s') s) :
    Seg (model prog w) A R Y n s₀ c ((execs (st :: rest) env).wrap K H gd lv) fs s :=
  seg_execs_cons (seg_wrap (wpAny_mono h (fun f s' hf => by cases f <;> exact hf) fun _ _ x => x))
end
end Mine
end
-- Ex5
section
open PySem PySem.W PyProof.Rows
set_option maxRecDepth 100000
namespace Mine
section
variable {prog : Program} {w : World} {A : Around} {E : Value → Shared → Prop} {s : Shared} {env : Env} {ex : Expr} {pos : Pos} {Q : Flow → Shared → Prop}
theorem raise_64 (hh : A.handled = none)
    (h : wpAny (model prog w) A (eval ex env) (Thrown (hd.heap_39 w.params) 64 E) E s) : wpAny (model prog w) A (exec (.Raise (some ex) none pos) env) Q E s := by
  w_top off
  refine exec_raise_own (K := hd.heap_39 w.params) excLine_64 (by k_is) hh h
theorem raise_77 (hh : A.handled = none)
    (h : wpAny (model prog w) A (eval ex env) (Thrown (hd.heap_39 w.params) 77 E) E s) : wpAny (model prog w) A (exec (.Raise (some ex) none pos) env) Q E s := by
  w_top off
  refine exec_raise_own (K := hd.heap_39 w.params) excLine_sub (by k_is) hh h
theorem raise_89 (hh : A.handled = none)
    (h : wpAny (model prog w) A (eval ex env) (Thrown (hd.heap_39 w.params) 89 E) E s) : wpAny (model prog w) A (exec (.Raise (some ex) none pos) env) Q E s := by
  w_top off
  refine exec_raise_own (K := hd.heap_39 w.params) excLine_sub (by k_is) hh h
end
end Mine
end
-- Fx
section
local macro_rules | `(tactic| walk_at "mine no such step") => `(tactic| skip)
local macro_rules | `(tactic| walk_at "mine no such step") => `(tactic| skip)
local macro_rules | `(tactic| walk_at "mine no such step") => `(tactic| skip)
local macro_rules | `(tactic| walk_at "mine no such step") => `(tactic| skip)
local macro_rules | `(tactic| walk_at "mine no such step") => `(tactic| skip)
local macro_rules | `(tactic| walk_at "mine no such step") => `(tactic| skip)
local macro_rules | `(tactic| walk_at "mine no such step") => `(tactic| skip)
local macro_rules | `(tactic| walk_at "mine no such step") => `(tactic| skip)
local macro_rules | `(tactic| walk_at "mine no such step") => `(tactic| skip)
local macro_rules | `(tactic| walk_at "mine no such step") => `(tactic| skip)
local macro_rules | `(tactic| walk_at "mine no such step") => `(tactic| skip)
local macro_rules | `(tactic| walk_at "mine no such step") => `(tactic| skip)
local macro_rules | `(tactic| walk_at "mine no such step") => `(tactic| skip)
local macro_rules | `(tactic| walk_at "mine no such step") => `(tactic| skip)
local macro_rules | `(tactic| walk_at "mine no such step") => `(tactic| skip)
local macro_rules | `(tactic| walk_at "mine no such step") => `(tactic| skip)
local macro_rules | `(tactic| walk_at "mine no such step") => `(tactic| skip)
local macro_rules | `(tactic| walk_at "mine no such step") => `(tactic| skip)
local macro_rules | `(tactic| walk_at "mine no such step") => `(tactic| skip)
local macro_rules | `(tactic| walk_at "mine no such step") => `(tactic| skip)
local macro_rules | `(tactic| walk_at "mine no such step") => `(tactic| skip)
local macro_rules | `(tactic| walk_at "mine no such step") => `(tactic| skip)
local macro_rules | `(tactic| walk_at "mine no such step") => `(tactic| skip)
local macro_rules | `(tactic| walk_at "mine no such step") => `(tactic| skip)
local macro_rules | `(tactic| walk_at "mine no such step") => `(tactic| skip)
local macro_rules | `(tactic| walk_at "mine no such step") => `(tactic| skip)
local macro_rules | `(tactic| walk_at "mine no such step") => `(tactic| skip)
local macro_rules | `(tactic| walk_at "mine no such step") => `(tactic| skip)
local macro_rules | `(tactic| walk_at "mine no such step") => `(tactic| skip)
local macro_rules | `(tactic| walk_at "mine no such step") => `(tactic| skip)
local macro_rules | `(tactic| walk_at "mine no such step") => `(tactic| skip)
local macro_rules | `(tactic| walk_at "mine no such step") => `(tactic| skip)
local macro_rules | `(tactic| walk_at "mine no such step") => `(tactic| skip)
local macro_rules | `(tactic| walk_at "mine no such step") => `(tactic| skip)
local macro_rules | `(tactic| walk_at "mine no such step") => `(tactic| skip)
local macro_rules | `(tactic| walk_at "mine no such step") => `(tactic| skip)
local macro_rules | `(tactic| walk_at "mine no such step") => `(tactic| skip)
local macro_rules | `(tactic| walk_at "mine no such step") => `(tactic| skip)
local macro_rules | `(tactic| walk_at "mine no such step") => `(tactic| skip)
local macro_rules | `(tactic| walk_at "mine no such step") => `(tactic| skip)
open PySem PySem.W PyProof.Rows
set_option maxRecDepth 100000
namespace Mine
open PySem PySem.Calls Builtin Builtin.Str
def pX : Percent := { zero := true, width := some 2, type := 88 }
def fx (i : Int) : List Nat :=
  match percentField pX true (percentInt pX (decide (i < 0)) ((Nat.toDigits 16 i.natAbs).map Char.toNat)) with
  | none => percentInt pX (decide (i < 0)) ((Nat.toDigits 16 i.natAbs).map Char.toNat)
  | some l => l
theorem fx_len_all : ∀ i : Fin 256, (fx (i.val : Int)).length ≤ 2 := by decide +kernel
theorem fx_len {i : Int} (h0 : 0 ≤ i) (h1 : i < 256) : (fx i).length ≤ 2 := by
  obtain ⟨n, rfl⟩ := Int.eq_ofNat_of_zero_le h0
  exact fx_len_all ⟨n, by omega⟩
section
variable {M : Model} {A : Around} {E : Value → Shared → Prop} {s : Shared} {l : List Nat} {p : List Value} {r : List Nat}
  {f : Nat → List Value × Writer × List Nat → Sem (ForInStep (List Value × Writer × List Nat))} {Q : List Value × Writer × List Nat → Shared → Prop}
  {w : Writer} {T x : PySem.Str} {N K : Nat} {o : Option Value}
theorem after_any {y : PySem.Str} (g : KPc.Good w T N) (hx : x = y) (hy : y.length ≤ K) (ho : o = none) (h : ∀ w', KPc.Good w' (T ++ y) (N + K) → wpAny M A (forIn l (p, w', r) f) Q E s) : wpAny M A (forIn l (p, w.add x o, r) f) Q E s := by
  subst hx
  exact h _ (KPc.good_mono (KPc.good_add g (KPc.obj_none ho)) (Nat.add_le_add_left hy _))
end
theorem fx_none {i : Int} (h : percentField pX true (percentInt pX (decide (i < 0)) ((Nat.toDigits 16 i.natAbs).map Char.toNat)) = none) : (⟨(percentInt pX (decide (i < 0)) ((Nat.toDigits 16 i.natAbs).map Char.toNat)).toArray⟩ : PySem.Str) = ⟨(fx i).toArray⟩ := by
  unfold fx; rw [h]
theorem fx_some {i : Int} {l : List Nat} (h : percentField pX true (percentInt pX (decide (i < 0)) ((Nat.toDigits 16 i.natAbs).map Char.toNat)) = some l) : (⟨l.toArray⟩ : PySem.Str) = ⟨(fx i).toArray⟩ := by
  unfold fx; rw [h]
abbrev fmtXX : PySem.Str := PySem.Str.ofString "checksum does not match: %02X != %02X"
set_option maxHeartbeats 8000000 in
theorem meets_XX {t : Tok} {b : Addr} {i j : Int} {u1 u2 : Tok} (hi0 : 0 ≤ i) (hi1 : i < 256) (hj0 : 0 ≤ j) (hj1 : j < 256) :
    Meets («str.__mod__» ⟨[.str ⟨#[99, 104, 101, 99, 107, 115, 117, 109, 32, 100, 111, 101, 115, 32, 110, 111, 116, 32, 109, 97, 116, 99, 104, 58, 32, 37, 48, 50, 88, 32, 33, 61, 32, 37, 48, 50, 88]⟩ t, .ref b], []⟩) (fun _ R s => IsTup s.heap b #[.int i u1, .int j u2] ∧ ∀ t' k, R (.ok (.ret (.str (PySem.Str.ofString "checksum does not match: " ++ ⟨(fx i).toArray⟩ ++ PySem.Str.ofString " != " ++ ⟨(fx j).toArray⟩) t'))) { s with toks := k }) := by
  apply KPt.meets_tup
  intro _ _ _ _ _ _ kptH _
  obtain ⟨kptO, kptG, kptC, kptN, kptD⟩ := kptH
  rw [KPt.entry_is_r]
  unfold Builtin.Str.percentFormat
  refine wpAny_bind (wpAny_isInstance (T := "tuple") ⟨kptO, kptG, kptC⟩ KPt.sub_tt ?_)
  refine wpAny_bind (KPt.asStr_ref kptG kptD ?_)
  refine wpAny_bind (KPt.fills_ref ⟨kptO, kptG, kptC⟩ ?_)
  intro _
  kpc_if
  refine wpAny_bind (wpAny_seqItems kptG kptD ?_)
  refine wpAny_bind (wpAny_pure ?_)
  refine wpAny_bind ?_
  rw [KPc.range_list]
  refine KPc.start ?_
  intro _ _
  refine KPc.turn ?_; kpc_check; (repeat kpc_if)
  refine wpAny_pure ?_
  kpt_piece
  refine KPc.turn ?_; kpc_check; (repeat kpc_if)
  refine wpAny_bind ?_; refine wpAny_holding ?_; (repeat kpc_if)
  refine wpAny_bind (wpAny_of_eq (a := i) rfl ?_); (repeat kpc_if)
  refine wpAny_pure ?_
  have hq := fx_len hi0 hi1
  dsimp only
  split
  all_goals
    rename_i hpf
    refine wpAny_pure ?_
    refine after_any (K := 2) (y := ⟨(fx i).toArray⟩) (by assumption) (by first | exact fx_none hpf | exact fx_some hpf) hq (by first | rfl | exact ite_self _) ?_
    intro _ _
    clear hpf
    refine KPc.turn ?_; kpc_check; (repeat kpc_if)
    refine wpAny_pure ?_
    dsimp only
    kpt_piece
    refine KPc.turn ?_; kpc_check; (repeat kpc_if)
    refine wpAny_bind ?_; refine wpAny_holding ?_; (repeat kpc_if)
    refine wpAny_bind (wpAny_of_eq (a := j) rfl ?_); (repeat kpc_if)
    refine wpAny_pure ?_
    have hq2 := fx_len hj0 hj1
    dsimp only
    split
    all_goals
      rename_i hpf
      refine wpAny_pure ?_
      refine after_any (K := 2) (y := ⟨(fx j).toArray⟩) (by assumption) (by first | exact fx_none hpf | exact fx_some hpf) hq2 (by first | rfl | exact ite_self _) ?_
      intro _ _
      clear hpf
      refine KPc.turn ?_; kpc_check; (repeat kpc_if)
      refine wpAny_pure ?_; kpc_if; refine KPc.finish_ok (by kpc_g) (by decide +kernel) rfl ?_; first | (with_reducible assumption) | assumption
end Mine
end
-- Xf
section
open PySem PySem.W PyProof.Rows
namespace Mine
set_option maxRecDepth 100000 in
theorem bitXor_all : (List.range 128).all (fun a => (List.range 128).all fun b => decide (0 ≤ Builtin.bitXor (a : Int) (b : Int)) && decide (Builtin.bitXor (a : Int) (b : Int) < 128)) = true := by decide +kernel
theorem bitXor_lt {a : Int} {b : Nat} (h0 : 0 ≤ a) (h1 : a < 128) (hb : b < 128) : 0 ≤ Builtin.bitXor a (b : Int) ∧ Builtin.bitXor a (b : Int) < 128 := by
  obtain ⟨n, rfl⟩ := Int.eq_ofNat_of_zero_le h0
  have h := List.all_eq_true.mp (List.all_eq_true.mp bitXor_all n (List.mem_range.mpr (by omega))) b (List.mem_range.mpr hb)
  simpa using h
theorem xorFrom_bd (l : List Nat) : ∀ r : Int, (∀ c ∈ l, c < 128) → 0 ≤ r → r < 128 → 0 ≤ xorFrom r l ∧ xorFrom r l < 128 := by
  induction l with
  | nil => intro r _ h h'; exact ⟨h, h'⟩
  | cons c l ih =>
    intro r hl h h'
    have hc := bitXor_lt h h' (hl c (List.mem_cons_self ..))
    exact ih _ (fun d hd => hl d (List.mem_cons_of_mem _ hd)) hc.1 hc.2
theorem xorFrom_lt {x : Str} (hA : x.cps.all (· < 128) = true) : 0 ≤ xorFrom 0 x.cps.toList ∧ xorFrom 0 x.cps.toList < 128 := by
  have h : ∀ c ∈ x.cps.toList, c < 128 := by
    intro c hc
    obtain ⟨i, hi, rfl⟩ := List.getElem_of_mem hc
    have := Array.all_eq_true.mp hA i (by simpa using hi)
    simpa using this
  exact xorFrom_bd _ 0 h (by decide) (by decide)
end Mine
end
-- Trc
section
local macro_rules | `(tactic| walk_at "mine no such step") => `(tactic| skip)
local macro_rules | `(tactic| walk_at "mine no such step") => `(tactic| skip)
local macro_rules | `(tactic| walk_at "mine no such step") => `(tactic| skip)
local macro_rules | `(tactic| walk_at "mine no such step") => `(tactic| skip)
local macro_rules | `(tactic| walk_at "mine no such step") => `(tactic| skip)
local macro_rules | `(tactic| walk_at "mine no such step") => `(tactic| skip)
local macro_rules | `(tactic| walk_at "mine no such step") => `(tactic| skip)
local macro_rules | `(tactic| walk_at "mine no such step") => `(tactic| skip)
local macro_rules | `(tactic| walk_at "mine no such step") => `(tactic| skip)
local macro_rules | `(tactic| walk_at "mine no such step") => `(tactic| skip)
local macro_rules | `(tactic| walk_at "mine no such step") => `(tactic| skip)
local macro_rules | `(tactic| walk_at "mine no such step") => `(tactic| skip)
local macro_rules | `(tactic| walk_at "mine no such step") => `(tactic| skip)
local macro_rules | `(tactic| walk_at "mine no such step") => `(tactic| skip)
local macro_rules | `(tactic| walk_at "mine no such step") => `(tactic| skip)
local macro_rules | `(tactic| walk_at "mine no such step") => `(tactic| skip)
local macro_rules | `(tactic| walk_at "mine no such step") => `(tactic| skip)
local macro_rules | `(tactic| walk_at "mine no such step") => `(tactic| skip)
local macro_rules | `(tactic| walk_at "mine no such step") => `(tactic| skip)
local macro_rules | `(tactic| walk_at "mine no such step") => `(tactic| skip)
local macro_rules | `(tactic| walk_at "mine no such step") => `(tactic| skip)
local macro_rules | `(tactic| walk_at "mine no such step") => `(tactic| skip)
local macro_rules | `(tactic| walk_at "mine no such step") => `(tactic| skip)
local macro_rules | `(tactic| walk_at "mine no such step") => `(tactic| skip)
local macro_rules | `(tactic| walk_at "mine no such step") => `(tactic| skip)
local macro_rules | `(tactic| walk_at "mine no such step") => `(tactic| skip)
local macro_rules | `(tactic| walk_at "mine no such step") => `(tactic| skip)
local macro_rules | `(tactic| walk_at "mine no such step") => `(tactic| skip)
local macro_rules | `(tactic| walk_at "mine no such step") => `(tactic| skip)
local macro_rules | `(tactic| walk_at "mine no such step") => `(tactic| skip)
local macro_rules | `(tactic| walk_at "mine no such step") => `(tactic| skip)
local macro_rules | `(tactic| walk_at "mine no such step") => `(tactic| skip)
local macro_rules | `(tactic| walk_at "mine no such step") => `(tactic| skip)
local macro_rules | `(tactic| walk_at "mine no such step") => `(tactic| skip)
local macro_rules | `(tactic| walk_at "mine no such step") => `(tactic| skip)
local macro_rules | `(tactic| walk_at "mine no such step") => `(tactic| skip)
local macro_rules | `(tactic| walk_at "mine no such step") => `(tactic| skip)
local macro_rules | `(tactic| walk_at "mine no such step") => `(tactic| skip)
local macro_rules | `(tactic| walk_at "mine no such step") => `(tactic| skip)
local macro_rules | `(tactic| walk_at "mine no such step") => `(tactic| skip)
open PySem PySem.W PyProof.Rows
set_option maxRecDepth 100000
namespace Mine
open PySem
theorem type_bool : typeLookup (.type "type") "__bool__" = pure none := by rw [typeLookup_type, builtinLookup_eq_fast]; kernel_rfl
theorem type_len : typeLookup (.type "type") "__len__" = pure none := by rw [typeLookup_type, builtinLookup_eq_fast]; kernel_rfl
theorem truthy_class {M : Model} {A : Around} {E : Value → Shared → Prop} {s : Shared} {C : Addr} {o : Obj} {Q : Bool → Shared → Prop} (ho : s.heap.get? C = some o) (hc : o.cls = .type "type") (h : Q true s) : wpAny M A (truthy (.ref C)) Q E s := by
  have hT : s.TypeIs (.ref C) "type" := ⟨_, ho, hc⟩
  have f1 := type_bool
  have f2 := type_len
  unfold truthy callSpecial?
  repeat (any_goals (first | assumption | (with_reducible refine wpAny_bind (wpAny_specialOf hT f1 ?_)) | (with_reducible refine wpAny_bind (wpAny_specialOf hT f2 ?_)) | wp_step))
end Mine
namespace Mine
section
variable {prog : Program} {w : World} {A : Around} {E : Value → Shared → Prop} {s : Shared} {Q : Bool → Shared → Prop}
theorem truthy_310 (X : (hd.heap_39 w.params).In s.heap) (h : Q true s) : wpAny (model prog w) A (truthy (.ref 310)) Q E s := by
  w_top off
  have X' := X
  refine truthy_class (X' _ _ (by k_is)) rfl h
theorem truthy_292 (X : (hd.heap_39 w.params).In s.heap) (h : Q true s) : wpAny (model prog w) A (truthy (.ref 292)) Q E s := by
  w_top off
  have X' := X
  refine truthy_class (X' _ _ (by k_is)) rfl h
end
end Mine
end
-- I16
section
open PySem PySem.W PyProof.Rows
set_option maxRecDepth 100000
namespace Mine
open PySem PySem.Calls PySem.NumText
def reads16 (x : Str) (n : Int) : Prop :=
  x.cps.all (· < 128) = true ∧ (x.cps.toList.takeWhile (· != 0)).length ≤ 640 ∧ (int_private% "readNumeral") 0 16 (x.cps.toList.takeWhile (· != 0)) = (int_private% "Numeral.value") n ∧ ((x.cps.toList.takeWhile (· != 0)).length == x.cps.toList.length) = true
theorem wp_text16 {M : Model} {A : Around} {E : Value → Shared → Prop} {s : Shared} {Q : Value → Shared → Prop} {v : Value} {text : List Nat} {n : Int}
    (hs : (text.takeWhile (· != 0)).length ≤ 640) (hr : (int_private% "readNumeral") 0 16 (text.takeWhile (· != 0)) = (int_private% "Numeral.value") n)
    (ha : ((text.takeWhile (· != 0)).length == text.length) = true) (h : Q (.int n s.toks) { s with toks := s.toks + 1 }) :
    wpAny M A ((int_private% "intFromText") v text 16) Q E s := by
  obtain ⟨hp, g, d, tk, os⟩ := s
  repeat (any_goals (first
    | assumption
    | (with_reducible refine wpAny_ite_true (decide_eq_true hs) ?_)
    | (with_reducible refine wpAny_ite_true (decide_eq_true ha) ?_)
    | wp_step))
  all_goals (try rw [hr])
  all_goals (try dsimp only)
  repeat (any_goals (first
    | assumption
    | (with_reducible refine wpAny_ite_true (decide_eq_true hs) ?_)
    | (with_reducible refine wpAny_ite_true (decide_eq_true ha) ?_)
    | wp_step))
structure Hid (p : Prop) : Prop where
  out : p
set_option maxHeartbeats 4000000 in
theorem gives_text16 {x : PySem.Str} {u v : Tok} {n : Int} (hx : reads16 x n) : Gives (Builtin.«int.__new__» ⟨[.type "int", .str x u, .int 16 v], []⟩) (.int n) :=
  .of_wp fun M A E s Q h => by
    obtain ⟨hp, g, d, tk, os⟩ := s
    have f1 := F.conv_sub_int
    have f2 := F.madeHere_int
    have f3 := KIN.str_int
    have f4 := KIN.str_idx
    have f5 := KIN.str_trunc
    have f6 : typeOf (.str x u) = pure (.type "str") := rfl
    have hall := hx.1
    have hk := Hid.mk hx.2
    clear hx
    repeat (any_goals (first
      | assumption
      | ((with_reducible show wpAny _ _ ((int_private% "intFromText") _ _ _) _ _ _); refine wp_text16 hk.out.1 hk.out.2.1 hk.out.2.2 ?_)
      | (simp only [hall, if_true])
      | wp_step))
    all_goals first | exact ⟨_, rfl, h⟩ | skip
theorem args_init3 (a b c : Value) : argsOk "object.__init__" ⟨[a, b, c], []⟩ := by unfold argsOk; kernel_rfl
section
variable {prog : Program} {w : World} {A : Around} {E : Value → Shared → Prop} {s : Shared} {Q : Value → Shared → Prop} {x : PySem.Str} {t u : Tok} {n : Int}
theorem call_int16 (hx : reads16 x n) (h : Q (.int n s.toks) { s with toks := s.toks + 1 }) : wpAny (model prog w) A (call (.type "int") [.str x t, .int 16 u]) Q E s :=
  callType_new F.called_int F.newNe_int (show checkTypeCall "int" ⟨[.str x t, .int 16 u], []⟩ = pure () by kernel_rfl) (show checkBuiltinCall "int.__new__" ⟨[.type "int", .str x t, .int 16 u], []⟩ = pure () by kernel_rfl) (fun obj => args_init3 _ _ _) F.entry_int_new (gives_text16 hx).meets (show (Made.int n).post _ s from ⟨rfl, h⟩)
end
end Mine
end
-- Pa
section
local macro_rules | `(tactic| walk_at "mine no such step") => `(tactic| skip)
local macro_rules | `(tactic| walk_at "mine no such step") => `(tactic| skip)
local macro_rules | `(tactic| walk_at "mine no such step") => `(tactic| skip)
local macro_rules | `(tactic| walk_at "mine no such step") => `(tactic| skip)
local macro_rules | `(tactic| walk_at "mine no such step") => `(tactic| skip)
local macro_rules | `(tactic| walk_at "mine no such step") => `(tactic| skip)
local macro_rules | `(tactic| walk_at "mine no such step") => `(tactic| skip)
local macro_rules | `(tactic| walk_at "mine no such step") => `(tactic| skip)
local macro_rules | `(tactic| walk_at "mine no such step") => `(tactic| skip)
local macro_rules | `(tactic| walk_at "mine no such step") => `(tactic| skip)
local macro_rules | `(tactic| walk_at "mine no such step") => `(tactic| skip)
local macro_rules | `(tactic| walk_at "mine no such step") => `(tactic| skip)
local macro_rules | `(tactic| walk_at "mine no such step") => `(tactic| skip)
local macro_rules | `(tactic| walk_at "mine no such step") => `(tactic| skip)
local macro_rules | `(tactic| walk_at "mine no such step") => `(tactic| skip)
local macro_rules | `(tactic| walk_at "mine no such step") => `(tactic| skip)
local macro_rules | `(tactic| walk_at "mine no such step") => `(tactic| skip)
local macro_rules | `(tactic| walk_at "mine no such step") => `(tactic| skip)
local macro_rules | `(tactic| walk_at "mine no such step") => `(tactic| skip)
local macro_rules | `(tactic| walk_at "mine no such step") => `(tactic| skip)
local macro_rules | `(tactic| walk_at "mine no such step") => `(tactic| skip)
local macro_rules | `(tactic| walk_at "mine no such step") => `(tactic| skip)
local macro_rules | `(tactic| walk_at "mine no such step") => `(tactic| skip)
local macro_rules | `(tactic| walk_at "mine no such step") => `(tactic| skip)
local macro_rules | `(tactic| walk_at "mine no such step") => `(tactic| skip)
local macro_rules | `(tactic| walk_at "mine no such step") => `(tactic| skip)
local macro_rules | `(tactic| walk_at "mine no such step") => `(tactic| skip)
local macro_rules | `(tactic| walk_at "mine no such step") => `(tactic| skip)
local macro_rules | `(tactic| walk_at "mine no such step") => `(tactic| skip)
local macro_rules | `(tactic| walk_at "mine no such step") => `(tactic| skip)
local macro_rules | `(tactic| walk_at "mine no such step") => `(tactic| skip)
local macro_rules | `(tactic| walk_at "mine no such step") => `(tactic| skip)
local macro_rules | `(tactic| walk_at "mine no such step") => `(tactic| skip)
local macro_rules | `(tactic| walk_at "mine no such step") => `(tactic| skip)
local macro_rules | `(tactic| walk_at "mine no such step") => `(tactic| skip)
local macro_rules | `(tactic| walk_at "mine no such step") => `(tactic| skip)
local macro_rules | `(tactic| walk_at "mine no such step") => `(tactic| skip)
local macro_rules | `(tactic| walk_at "mine no such step") => `(tactic| skip)
local macro_rules | `(tactic| walk_at "mine no such step") => `(tactic| skip)
local macro_rules | `(tactic| walk_at "mine no such step") => `(tactic| skip)
open PySem PySem.W PyProof.Rows
set_option linter.unusedVariables false
namespace Mine
def dollarS (n : Str) : Str := if (Txt.slice n none (some 1) == Str.ofString "$") = true then Txt.slice n (some 1) none else n
theorem dollarS_len (n : Str) (h : (Txt.slice n (some 1) none).length ≤ n.length) : (dollarS n).length ≤ n.length := by unfold dollarS; split; exact h; exact Nat.le_refl _
theorem dollarS_t {n : Str} (h : (Txt.slice n none (some 1) == Str.ofString "$") = true) : Txt.slice n (some 1) none = dollarS n := (if_pos h).symm
theorem dollarS_f {n : Str} (h : (Txt.slice n none (some 1) == Str.ofString "$") = false) : dollarS n = n := if_neg (by rw [h]; decide)
local macro_rules | `(tactic| walk_at "m_use4") => `(tactic| (intro h' tk' t' k9; (have F' := fr_stay (by assumption) k9); (have N' := news_stay (by assumption) k9); clear k9; (try dsimp only)))
local macro_rules | `(tactic| walk_at "m_use") => `(tactic| (intro h' tk' k9; (have F' := fr_stay (by assumption) k9); (have N' := news_stay (by assumption) k9); clear k9; (try dsimp only)))
local macro_rules | `(tactic| walk_at "call ref") => `(tactic| (k_here; (with_reducible show wpAny _ _ (PySem.call (Value.ref 98) _ _) _ _ _); (refine wpAny_call ?_); k_dflt (refine' wordlike_spec ?k1 ?k2 ?k3 ?k4 ?k5 ?k6 ?k7 ?_; (case k1 => k_in); (case k2 => exact Top.keeps (by assumption) (Fr.keep (by assumption))); (case k3 => exact Below.push (by assumption) (by assumption)); (case k4 => exact rfl); (case k5 => (simp only [depth_in1, depth_deeper]; omega)); (case k6 => (simp only [units_in1, units_deeper]; omega)); (case k7 => first | assumption | omega | size_fits)); walk_at "m_use"))
def isP (n : Str) : Bool := [Str.ofString "P", Str.ofString "p"].any fun x => x == Txt.slice n none (some 1)
def isQ (n : Str) : Bool := [Str.ofString "Q,", Str.ofString "q,"].any fun x => x == Txt.slice n (some 4) (some 6)
def sizeS (n : Str) : Int :=
  if (isP n && wordlikeS (Txt.slice n (some 1) (some 4)) 3) = true then 4
  else if (wordlikeS (Txt.slice n none (some 4)) 4 && (isQ n && wordlikeS (Txt.slice n (some 6) (some 9)) 3)) = true then 9
  else if (wordlikeS (Txt.slice n none (some 5)) 5 && Txt.slice n (some 5) (some 6) == Str.ofString ",") = true then 6 else 0
inductive PRes where
  | err (C : Addr)
  | talker (C : Addr) (t k : Str) (d : List Str)
  | query (t l k : Str)
  | maker (m : Str) (d : List Str)
abbrev hexS : Str := Str.ofString "0123456789ABCDEFabcdef"
def okTail (tail : Str) : Prop := 1 < (tail.length : Int) ∧ ((Txt.stripChars (Txt.slice tail none (some 2)) hexS).length : Int) = 0 ∧ ((Txt.strip (Txt.slice tail (some 2) none)).length : Int) = 0
instance (t : Str) : Decidable (okTail t) := by unfold okTail; infer_instance
def badS (z : Int) (star tail : Str) : Prop := z = 0 ∨ ((star.length : Int) ≠ 0 ∧ ¬ okTail tail)
instance (z : Int) (s t : Str) : Decidable (badS z s t) := by unfold badS; infer_instance
def parseV (u ds : Str) (lean : Bool) : PRes :=
  if (Txt.slice u (some 5) none == Str.ofString ",") = true then
    match kindsF lean (Txt.slice u (some 2) (some 5)) with
    | some (.ref C) => .talker C (Txt.slice u none (some 2)) (Txt.slice u (some 2) (some 5)) (Txt.split ds (Str.ofString ","))
    | _ => .err 77
  else if (Txt.slice u (some 4) (some 6) == Str.ofString "Q,") = true ∧ (u.length : Int) = 9 ∧ (ds.length : Int) = 0 then .query (Txt.slice u none (some 2)) (Txt.slice u (some 2) (some 4)) (Txt.slice u (some 6) none)
  else if (u.length : Int) = 4 then .maker (Txt.slice u (some 1) none) (Txt.split ds (Str.ofString ","))
  else .err 64
def parseU (n : Str) (z : Int) (tail : Str) (lean : Bool) (cs : Int) : PRes :=
  if ((Txt.slice tail none (some 2)).length : Int) ≠ 0 ∧ cs ≠ xorFrom 0 n.cps.toList then .err 89 else parseV (Txt.upper (Txt.slice n none (some z))) (Txt.slice n (some z) none) lean
def parseT (n star tail : Str) (lean : Bool) (cs : Int) : PRes :=
  if badS (sizeS n) star tail then .err 64 else parseU n (sizeS n) tail lean cs
theorem parseT_bad {n star tail : Str} {lean : Bool} {cs : Int} (h : badS (sizeS n) star tail) : parseT n star tail lean cs = .err 64 := if_pos h
theorem parseT_ok {n star tail : Str} {lean : Bool} {cs : Int} (h : ¬ badS (sizeS n) star tail) : parseT n star tail lean cs = parseU n (sizeS n) tail lean cs := if_neg h
def parseS (x : Str) (lean : Bool) (cs : Int) : PRes :=
  parseT (dollarS (Txt.partition (Txt.lstrip x) (Str.ofString "*")).1) (Txt.partition (Txt.lstrip x) (Str.ofString "*")).2.1 (Txt.partition (Txt.lstrip x) (Str.ofString "*")).2.2 lean cs
local macro_rules | `(tactic| walk_at "call ref") => `(tactic| (k_here; (with_reducible show wpAny _ _ (PySem.call (Value.ref 64) _ _) _ _ _); k_dflt (refine' make_64 ?k1 ?k2 ?k4 ?k5 ?k6 ?_; (case k1 => k_in); (case k2 => exact Top.keeps (by assumption) (Fr.keep (by assumption))); (case k4 => exact rfl); (case k5 => (simp only [depth_in1, depth_deeper]; omega)); (case k6 => (simp only [units_in1, units_deeper]; omega))); intro h' tk' e9 t' k9 hn9 he9; refine' ⟨e9, t', rfl, Frag.In.keeps (by assumption) (fun b o q => k9 b o (Fr.keep (by assumption) b o q)), he9, leave_exc (by assumption) (by assumption) k9 hn9 he9 rfl rfl ?_⟩; intro h9 fl9 up9; have up8 := up_stay (Fr.keep (by assumption)) k9 up9; clear up9; dsimp only))
local macro_rules | `(tactic| walk_at "exec Raise some none") => `(tactic| (k_here; (with_reducible show wpAny _ _ (exec (Stmt.Raise (some (Expr.Call (Expr.Name (Str.ofString "ParseError") _) _ _ _)) none _) _) _ _ _); k_dflt (refine' raise_64 ?k2 ?_; (case k2 => exact rfl))))
local macro_rules | `(tactic| walk_at "call ref") => `(tactic| (k_here; (with_reducible show wpAny _ _ (PySem.call (Value.ref 77) _ _) _ _ _); k_dflt (refine' make_77 ?k1 ?k2 ?k4 ?k5 ?k6 ?_; (case k1 => k_in); (case k2 => exact Top.keeps (by assumption) (Fr.keep (by assumption))); (case k4 => exact rfl); (case k5 => (simp only [depth_in1, depth_deeper]; omega)); (case k6 => (simp only [units_in1, units_deeper]; omega))); intro h' tk' e9 t' k9 hn9 he9; refine' ⟨e9, t', rfl, Frag.In.keeps (by assumption) (fun b o q => k9 b o (Fr.keep (by assumption) b o q)), he9, leave_exc (by assumption) (by assumption) k9 hn9 he9 rfl rfl ?_⟩; intro h9 fl9 up9; have up8 := up_stay (Fr.keep (by assumption)) k9 up9; clear up9; dsimp only))
local macro_rules | `(tactic| walk_at "exec Raise some none") => `(tactic| (k_here; (with_reducible show wpAny _ _ (exec (Stmt.Raise (some (Expr.Call (Expr.Name (Str.ofString "SentenceTypeError") _) _ _ _)) none _) _) _ _ _); k_dflt (refine' raise_77 ?k2 ?_; (case k2 => exact rfl))))
local macro_rules | `(tactic| walk_at "call ref") => `(tactic| (k_here; (with_reducible show wpAny _ _ (PySem.call (Value.ref 89) _ _) _ _ _); k_dflt (refine' make_89 ?k1 ?k2 ?k4 ?k5 ?k6 ?_; (case k1 => k_in); (case k2 => exact Top.keeps (by assumption) (Fr.keep (by assumption))); (case k4 => exact rfl); (case k5 => (simp only [depth_in1, depth_deeper]; omega)); (case k6 => (simp only [units_in1, units_deeper]; omega))); intro h' tk' e9 t' k9 hn9 he9; refine' ⟨e9, t', rfl, Frag.In.keeps (by assumption) (fun b o q => k9 b o (Fr.keep (by assumption) b o q)), he9, leave_exc (by assumption) (by assumption) k9 hn9 he9 rfl rfl ?_⟩; intro h9 fl9 up9; have up8 := up_stay (Fr.keep (by assumption)) k9 up9; clear up9; dsimp only))
local macro_rules | `(tactic| walk_at "exec Raise some none") => `(tactic| (k_here; (with_reducible show wpAny _ _ (exec (Stmt.Raise (some (Expr.Call (Expr.Name (Str.ofString "ChecksumError") _) _ _ _)) none _) _) _ _ _); k_dflt (refine' raise_89 ?k2 ?_; (case k2 => exact rfl))))
local macro_rules | `(tactic| walk_at "call ref") => `(tactic| (k_here; (with_reducible show wpAny _ _ (PySem.call (Value.ref 113) _ _) _ _ _); (refine wpAny_call ?_); k_dflt (refine' checksum_spec ?k1 ?k2 ?k3 ?k4 ?k5 ?k6 ?k7 ?k8 ?_; (case k1 => k_in); (case k2 => exact Top.keeps (by assumption) (Fr.keep (by assumption))); (case k3 => exact Below.push (by assumption) (by assumption)); (case k4 => exact rfl); (case k5 => (simp only [depth_in1, depth_deeper]; omega)); (case k6 => (simp only [units_in1, units_deeper]; omega)); (case k7 => first | assumption | omega | size_fits); (case k8 => assumption)); walk_at "m_use4"))
local macro_rules | `(tactic| walk_at "call type:int") => `(tactic| (k_here; refine call_int16 (by first | assumption | exact (by assumption : _ → reads16 _ _) (by assumption)) ?_))
local macro_rules | `(tactic| walk_at "binaryOp Mod str ref") => `(tactic| (k_here; (with_reducible show wpAny _ _ (binaryOp Operator.Mod (Value.str _ _) (Value.ref _)) _ _ _); k_dflt (refine' KPt.mod_tuple ?kptN ?kptb ?kptF (meets_XX ?q1 ?q2 ?q3 ?q4) ?_; (case kptN => k_asm); (case kptb => k_mem); (case q1 => assumption); (case q2 => omega); (case q3 => assumption); (case q4 => omega); (case kptF => decide +kernel)); intro _ _))
/-- the message that parse gives, as it lies in the heap -/
def IsMsg (P : Params) (g h : Heap) (r : PRes) (x : Addr) : Prop :=
  match r with
  | .err _ => False
  | .talker C n1 n2 dd => ∃ d l2 l c k1 k2 k3 t1 t2, g.get? x = none ∧ g.get? d = none ∧ g.get? l2 = none ∧ (C = 310 ∨ C = 292) ∧ h.get? x = some (instObj C d) ∧ h.get? l2 = some (W.listOf (strValues l).toArray c) ∧ l.map (·.1) = dd ∧
      h.get? d = some (dictOf [ent P (Str.ofString "talker") k1 (.str n1 t1), ent P (Str.ofString "sentence_type") k2 (.str n2 t2), ent P (Str.ofString "data") k3 (.ref l2)] 3)
  | .query n1 n2 n3 => ∃ d l2 c k1 k2 k3 k4 t1 t2 t3, g.get? x = none ∧ g.get? d = none ∧ g.get? l2 = none ∧ h.get? x = some (instObj 218 d) ∧ h.get? l2 = some (W.listOf #[] c) ∧
      h.get? d = some (dictOf [ent P (Str.ofString "talker") k1 (.str n1 t1), ent P (Str.ofString "listener") k2 (.str n2 t2), ent P (Str.ofString "sentence_type") k3 (.str n3 t3), ent P (Str.ofString "data") k4 (.ref l2)] 4)
  | .maker n1 dd => ∃ d l2 l c k1 k2 t1, g.get? x = none ∧ g.get? d = none ∧ g.get? l2 = none ∧ h.get? x = some (instObj 244 d) ∧ h.get? l2 = some (W.listOf (strValues l).toArray c) ∧ l.map (·.1) = dd ∧
      h.get? d = some (dictOf [ent P (Str.ofString "manufacturer") k1 (.str n1 t1), ent P (Str.ofString "data") k2 (.ref l2)] 2)
section
variable {P : Params} {g h : Heap} {x d l2 : Addr} {n1 n2 n3 : Str} {dd : List Str} {l : List (Str × Tok)} {c : Nat} {k1 k2 k3 k4 t1 t2 t3 : Tok}
theorem IsMsg.talker {C : Addr} (e1 : h.get? x = some (instObj C d)) (e3 : h.get? d = some (dictOf [ent P (Str.ofString "talker") k1 (.str n1 t1), ent P (Str.ofString "sentence_type") k2 (.str n2 t2), ent P (Str.ofString "data") k3 (.ref l2)] 3))
    (e2 : h.get? l2 = some (W.listOf (strValues l).toArray c)) (m : l.map (·.1) = dd) (f1 : g.get? x = none) (f2 : g.get? d = none) (f3 : g.get? l2 = none) (o : C = 310 ∨ C = 292) : IsMsg P g h (.talker C n1 n2 dd) x :=
  ⟨d, l2, l, c, k1, k2, k3, t1, t2, f1, f2, f3, o, e1, e2, m, e3⟩
theorem IsMsg.query (e1 : h.get? x = some (instObj 218 d)) (e3 : h.get? d = some (dictOf [ent P (Str.ofString "talker") k1 (.str n1 t1), ent P (Str.ofString "listener") k2 (.str n2 t2), ent P (Str.ofString "sentence_type") k3 (.str n3 t3), ent P (Str.ofString "data") k4 (.ref l2)] 4))
    (e2 : h.get? l2 = some (W.listOf #[] c)) (f1 : g.get? x = none) (f2 : g.get? d = none) (f3 : g.get? l2 = none) : IsMsg P g h (.query n1 n2 n3) x :=
  ⟨d, l2, c, k1, k2, k3, k4, t1, t2, t3, f1, f2, f3, e1, e2, e3⟩
theorem IsMsg.maker (e1 : h.get? x = some (instObj 244 d)) (e3 : h.get? d = some (dictOf [ent P (Str.ofString "manufacturer") k1 (.str n1 t1), ent P (Str.ofString "data") k2 (.ref l2)] 2))
    (e2 : h.get? l2 = some (W.listOf (strValues l).toArray c)) (m : l.map (·.1) = dd) (f1 : g.get? x = none) (f2 : g.get? d = none) (f3 : g.get? l2 = none) : IsMsg P g h (.maker n1 dd) x :=
  ⟨d, l2, l, c, k1, k2, t1, f1, f2, f3, e1, e2, m, e3⟩
end
theorem fr_drop {h₀ h : Heap} {L : Addr} {m : Str → Option Value} {a n t s : Str} {va vn vt vs vo : Option Value} (F : Fr h₀ L h (fun y => if y = a then va else if y = n then vn else if y = t then vt else if y = s then vs else if y = n then vo else m y)) :
    Fr h₀ L h (fun y => if y = a then va else if y = n then vn else if y = t then vt else if y = s then vs else m y) :=
  fr_congr F fun y => by by_cases q : y = n <;> simp [q]
theorem strv_len {l : List (Str × Tok)} {x y : Str} (h : List.map (fun x => x.fst) l = Txt.split x y) (hx : x.length ≤ 4096) : (strValues l).length ≤ 8192 := by
  have h1 := congrArg List.length h
  have h2 := (fact_split x y).2
  unfold strValues
  rw [List.length_map] at h1 ⊢
  omega
theorem kindsF_no4 {lean : Bool} {x : Str} (h : (x.length : Int) = 4) (v : Value) : kindsF lean x ≠ some v := by
  unfold kindsF
  rw [if_neg (fun q => by rw [q] at h; exact absurd h (by decide)), if_neg (fun q => by rw [q.2] at h; exact absurd h (by decide))]
  exact fun q => nomatch q
local macro_rules | `(tactic| walk_at "m_talker") => `(tactic| (refine' IsMsg.talker ?e1 ?e3 ?e2 ?m ?f1 ?f2 ?f3 ?o; (case e1 => assumption); (case e3 => assumption); (case e2 => assumption); (case m => assumption); (case f1 => assumption); (case f2 => assumption); (case f3 => assumption); (case o => first | exact Or.inl rfl | exact Or.inr rfl)))
local macro_rules | `(tactic| walk_at "m_query") => `(tactic| (refine' IsMsg.query ?e1 ?e3 ?e2 ?f1 ?f2 ?f3; (case e1 => assumption); (case e3 => assumption); (case e2 => assumption); (case f1 => assumption); (case f2 => assumption); (case f3 => assumption)))
local macro_rules | `(tactic| walk_at "m_maker") => `(tactic| (refine' IsMsg.maker ?e1 ?e3 ?e2 ?m ?f1 ?f2 ?f3; (case e1 => assumption); (case e3 => assumption); (case e2 => assumption); (case m => assumption); (case f1 => assumption); (case f2 => assumption); (case f3 => assumption)))
theorem mapOf_stays {prog : Program} {w : World} {k : KeyKind prog w Str} {h h' : Heap} {a : Addr} {f : Str → Option Value} (m : h.MapOf k a f) (s : h.StaysIn h') : h'.MapOf k a f := by
  obtain ⟨o, es, ep, e, r⟩ := m
  exact ⟨o, es, ep, s _ _ e, r⟩
theorem kindsF_cases (lean : Bool) (x : Str) : kindsF lean x = none ∨ kindsF lean x = some (.ref 310) ∨ kindsF lean x = some (.ref 292) := by
  unfold kindsF
  split
  · exact .inr (.inl rfl)
  · split
    · exact .inr (.inr rfl)
    · exact .inl rfl
theorem kindsF_lean {lean : Bool} {x : Str} {C : Addr} (h : kindsF lean x = some (.ref C)) : C = 310 ∨ C = 292 := by
  rcases kindsF_cases lean x with e | e | e <;> rw [h] at e <;> cases e
  · exact .inl rfl
  · exact .inr rfl
local macro_rules | `(tactic| walk_at "getMethod ref") => `(tactic| (k_here; (with_reducible show wpAny _ _ (getMethod _ (Str.ofString "get") _) _ _ _); k_dflt (refine' kinds_method (mapOf_stays (by assumption) (Fr.keep (by assumption))) ?_)))
local macro_rules | `(tactic| walk_at "call builtin:dict.get") => `(tactic| (k_here; k_dflt (first | refine kinds_get1 (by assumption) (mapOf_stays (by assumption) (Fr.keep (by assumption))) ?_ | refine kinds_get2 (by assumption) (mapOf_stays (by assumption) (Fr.keep (by assumption))) ?_); (rcases kindsF_cases _ _ with e9 | e9 | e9) <;> rw [e9] <;> dsimp only [Option.getD]))
local macro_rules | `(tactic| walk_at "call ref") => `(tactic| (k_here; (with_reducible show wpAny _ _ (PySem.call (Value.ref 310) _ _) _ _ _); k_dflt (refine' inst_talker ?g1 ?g2 ?g3 ?g4 ?g5 ?g6 ?g7 ?g8 ?g9 ?g10 ?_; (case g1 => exact Fr.keep (by assumption)); (case g2 => assumption); (case g3 => assumption); (case g4 => exact rfl); (case g5 => (simp only [depth_in1, depth_deeper]; omega)); (case g6 => (simp only [units_in1, units_deeper]; omega)); (case g7 => exact Or.inl rfl); (case g8 => assumption); (case g9 => exact News.get (by assumption) (by k_mem)); (case g10 => exact news_fresh (by assumption) (by k_mem))); intro h' tk' x' d' l2' c' k1' k2' k3' K9 f1 f2 f3 e1 e2 e3; (try dsimp only)))
local macro_rules | `(tactic| walk_at "call ref") => `(tactic| (k_here; (with_reducible show wpAny _ _ (PySem.call (Value.ref 292) _ _) _ _ _); k_dflt (refine' inst_talker ?g1 ?g2 ?g3 ?g4 ?g5 ?g6 ?g7 ?g8 ?g9 ?g10 ?_; (case g1 => exact Fr.keep (by assumption)); (case g2 => assumption); (case g3 => assumption); (case g4 => exact rfl); (case g5 => (simp only [depth_in1, depth_deeper]; omega)); (case g6 => (simp only [units_in1, units_deeper]; omega)); (case g7 => exact Or.inr rfl); (case g8 => assumption); (case g9 => exact News.get (by assumption) (by k_mem)); (case g10 => exact news_fresh (by assumption) (by k_mem))); intro h' tk' x' d' l2' c' k1' k2' k3' K9 f1 f2 f3 e1 e2 e3; (try dsimp only)))
local macro_rules | `(tactic| walk_at "call ref") => `(tactic| (k_here; (with_reducible show wpAny _ _ (PySem.call (Value.ref 244) _ _) _ _ _); k_dflt (refine' inst_maker ?g1 ?g2 ?g3 ?g4 ?g5 ?g6 ?g7 ?g8 ?g9 ?g10 ?_; (case g1 => exact Fr.keep (by assumption)); (case g2 => assumption); (case g3 => assumption); (case g4 => exact rfl); (case g5 => (simp only [depth_in1, depth_deeper]; omega)); (case g6 => (simp only [units_in1, units_deeper]; omega)); (case g7 => exact rfl); (case g8 => assumption); (case g9 => exact News.get (by assumption) (by k_mem)); (case g10 => exact news_fresh (by assumption) (by k_mem))); intro h' tk' x' d' l2' c' k1' k2' K9 f1 f2 f3 e1 e2 e3; (try dsimp only)))
local macro_rules | `(tactic| walk_at "call ref") => `(tactic| (k_here; (with_reducible show wpAny _ _ (PySem.call (Value.ref 218) _ _) _ _ _); k_dflt (refine' inst_query ?g1 ?g2 ?g3 ?g4 ?g5 ?g6 ?g7 ?_; (case g1 => exact Fr.keep (by assumption)); (case g2 => assumption); (case g3 => assumption); (case g4 => exact rfl); (case g5 => (simp only [depth_in1, depth_deeper]; omega)); (case g6 => (simp only [units_in1, units_deeper]; omega)); (case g7 => exact rfl)); intro h' tk' x' d' l2' c' k1' k2' k3' k4' K9 f1 f2 f3 e1 e2 e3; (try dsimp only)))
local macro_rules | `(tactic| walk_at "truthy ref") => `(tactic| (k_here; k_dflt (first | refine truthy_310 (by k_in) ?_ | refine truthy_292 (by k_in) ?_)))
set_option maxRecDepth 100000 in
set_option maxHeartbeats 8000000 in
theorem parse_spec {prog : Program} {w : World} {mean : ExcName → Option Value} {mg mb : Str → Option Value} {loose : List Str}
   {A : Around} {outer : List Env} {base : Heap} {s : Shared} {R : Result → Shared → Prop} {x : Str} {t : Tok} {kd : Addr}
   (X : (hd.heap_39 w.params).In s.heap) (T : Top hd.view_39 loose mean mg mb s.heap) (B : Below A base outer s.heap) (hh : A.handled = none) (hd : A.depth < 800) (hu : A.units < 8000)
   (hx : x.length ≤ 4096) (hl2 : (Txt.lstrip x).length ≤ 4096) (hn : (dollarS (Txt.partition (Txt.lstrip x) (Str.ofString "*")).1).length ≤ 4096) (hA : (dollarS (Txt.partition (Txt.lstrip x) (Str.ofString "*")).1).cps.all (· < 128) = true)
   {lean : Bool} {cs : Int} (hkd : s.heap.MapOf (strKind prog w) kd (kindsF lean)) (hkm : (kd == sysModules) = false) (hck : ((Txt.slice (Txt.partition (Txt.lstrip x) (Str.ofString "*")).2.2 none (some 2)).length : Int) ≠ 0 → reads16 (Txt.slice (Txt.partition (Txt.lstrip x) (Str.ofString "*")).2.2 none (some 2)) cs) (hcs0 : 0 ≤ cs) (hcs1 : cs < 256)
   (hret : ∀ h' tk' a, s.heap.StaysIn h' → IsMsg w.params s.heap h' (parseS x lean cs) a → R (.ok (.ret (.ref a))) { s with heap := h', toks := tk' })
   (hend : parseS x lean cs = .err 64 → badS (sizeS (dollarS (Txt.partition (Txt.lstrip x) (Str.ofString "*")).1)) (Txt.partition (Txt.lstrip x) (Str.ofString "*")).2.1 (Txt.partition (Txt.lstrip x) (Str.ofString "*")).2.2)
   (hexc : ∀ C, parseS x lean cs = .err C → ∀ h' tk' e, Fly base outer e C h' → s.heap.UpToSlots h' → R (.error (.ref e)) { s with heap := h', toks := tk' }) :
   codeAny (model prog w) A (.call (.ref 124) ⟨[.str x t, .ref kd], []⟩) R s := by
  w_top off
  obtain ⟨hd0, dp, fr, gd, un⟩ := A
  obtain rfl : hd0 = none := hh
  replace hd : dp < 800 := hd
  replace hu : un < 8000 := hu
  have hroom : dp < recursionLimit := Nat.lt_of_lt_of_le hd (by decide)
  k_dflt (refine' enter ?k1 ?k2 ?k6 ?k7 ?k8 ?k9 ?kB ?_ ?c2 ?c3 ?c4 ?c5; (case k1 => assumption); (case k2 => first | assumption | exact Top.nolimit (by assumption)); (case k6 => k_is); (case k7 => k_is); (case k8 => first | assumption | omega | decide); (case k9 => first | exact BindsTo.of_eq rfl | exact binds_K (by k_in) rfl (by k_is) rfl rfl rfl); (case c5 => decide); (case kB => exact locs rfl); (case c2 => exact rfl); (case c3 => exact rfl); (case c4 => exact rfl); k_whole)
  intro L h1 F N
  dsimp only
  generalize s.toks + _ = tk0
  replace F : Fr s.heap L h1 (fun y => List.lookup y [(Str.ofString "check", .bool false), (Str.ofString "kinds", .ref kd), (Str.ofString "line", .str x t)]) := F
  refine cut (fun s' => ∃ h' tk' t1 t2 t3, s' = { s with heap := h', toks := tk' } ∧ Fr s.heap L h' (fun y => if y = Str.ofString "tail" then some (.str (Txt.partition (Txt.lstrip x) (Str.ofString "*")).2.2 t3) else (if y = Str.ofString "star" then some (.str (Txt.partition (Txt.lstrip x) (Str.ofString "*")).2.1 t2) else (if y = Str.ofString "nmea_str" then some (.str (Txt.partition (Txt.lstrip x) (Str.ofString "*")).1 t1) else List.lookup y [(Str.ofString "check", .bool false), (Str.ofString "kinds", .ref kd), (Str.ofString "line", .str x t)]))) ∧ News s.heap L h' []) ?_ ?_
  · k_steps
    exact ⟨rfl, _, _, _, _, _, rfl, by assumption, fun p hp => nomatch hp⟩
  rintro s' ⟨h2, tk2, t1, t2, t3, rfl, F2, N2⟩
  clear F N
  have hl := fact_partition (Txt.lstrip x) (Str.ofString "*")
  unfold parseS at hexc hret hend
  generalize hp : Txt.partition (Txt.lstrip x) (Str.ofString "*") = p at *
  obtain ⟨n0, star, tail⟩ := p
  dsimp only at hl F2 hexc hret hend hn hA hck
  refine cut_name F2 N2 (Str.ofString "nmea_str") (fun t => .str (dollarS n0) t) ?_ ?_
  · k_steps
    · rename Fr _ _ _ _ => F9
      rename _ = true => e9
      rw [dollarS_t e9] at F9
      exact nxt1 (v := fun t => .str (dollarS n0) t) F9
    · rename Fr _ _ _ _ => F9
      rename _ = false => e9
      rw [dollarS_f e9]
      exact nxt1s (v := fun t => .str n0 t) (t := t1) F9 rfl
  intro h3 tk3 t4 F3 N3
  generalize dollarS n0 = n at *
  clear F2 N2
  refine wpAny_execs_cons ?_
  iterate 3 walk1
  rename Fr _ _ _ _ => F4
  rename News _ _ _ _ => N4
  refine cut_name F4 N4 (Str.ofString "size") (fun t => .int (sizeS n) t) ?_ ?_
  · k_steps
    all_goals (rename Fr _ _ _ _ => F9; clear hp hl hret X T B)
    all_goals (first
      | exact nxt1 (v := fun t => .int (sizeS n) t) (by rw [show sizeS n = 4 from by (unfold sizeS isP isQ; simp only [*, Bool.true_and, Bool.and_true, Bool.false_and, Bool.and_false, if_true, if_false, Bool.false_eq_true])]; exact F9)
      | exact nxt1 (v := fun t => .int (sizeS n) t) (by rw [show sizeS n = 9 from by (unfold sizeS isP isQ; simp only [*, Bool.true_and, Bool.and_true, Bool.false_and, Bool.and_false, if_true, if_false, Bool.false_eq_true])]; exact F9)
      | exact nxt1 (v := fun t => .int (sizeS n) t) (by rw [show sizeS n = 6 from by (unfold sizeS isP isQ; simp only [*, Bool.true_and, Bool.and_true, Bool.false_and, Bool.and_false, if_true, if_false, Bool.false_eq_true])]; exact F9)
      | (rw [show sizeS n = 0 from by (unfold sizeS isP isQ; simp only [*, Bool.true_and, Bool.and_true, Bool.false_and, Bool.and_false, if_true, if_false, Bool.false_eq_true])]; exact nxt1s (v := fun t => .int 0 t) F9 rfl))
  intro h5 tk5 t5 F5 N5
  have F5' := fr_twice F5
  clear F5 F4
  generalize hz : sizeS n = z at *
  refine cut (fun s' => ∃ h' tk', s' = { s with heap := h', toks := tk' } ∧ Fr s.heap L h' (fun y => if y = Str.ofString "size" then some (.int z t5) else if y = Str.ofString "nmea_str" then some (.str n t4) else (if y = Str.ofString "tail" then some (.str tail t3) else (if y = Str.ofString "star" then some (.str star t2) else (List.lookup y [(Str.ofString "check", .bool false), (Str.ofString "kinds", .ref kd), (Str.ofString "line", .str x t)])))) ∧ News s.heap L h' [] ∧ ¬ badS z star tail) ?_ ?_
  · clear hret
    k_steps
    all_goals first
      | (refine hexc 64 (parseT_bad ?_) _ _ _ (by assumption) (by assumption); rw [hz]; first
          | exact Or.inl (by assumption)
          | (refine Or.inr ⟨by assumption, ?_⟩; rintro ⟨q1, q2, q3⟩; first | exact absurd q1 (by assumption) | exact absurd q2 (by assumption) | exact absurd q3 (by assumption)))
      | (refine ⟨rfl, _, _, rfl, fr_drop (by assumption), by assumption, ?_⟩; rintro (q | ⟨q1, q2⟩) <;> first | omega | exact q2 ⟨by assumption, by assumption, by assumption⟩)
  rintro s' ⟨h6, tk6, rfl, F6, N6, hb⟩
  have hT : parseT n star tail lean cs = parseU n z tail lean cs := by rw [parseT_ok (by rw [hz]; exact hb), hz]
  have hexc' := fun C q => hexc C (hT.trans q)
  rw [hT] at hret hend
  have hend' := fun q => hb (hend q)
  clear hend hT
  have htl : tail.length ≤ 4096 := Nat.le_trans hl.2.2 hl2
  clear F5' N4 N5 hexc hp hb hl hl2
  refine cut (fun s' => ∃ h' tk' t6 t7 t8, s' = { s with heap := h', toks := tk' } ∧ Fr s.heap L h' (fun y => if y = Str.ofString "sentence_type" then some (.str (Txt.upper (Txt.slice n none (some z))) t6) else if y = Str.ofString "data_str" then some (.str (Txt.slice n (some z) none) t7) else if y = Str.ofString "checksum" then some (.str (Txt.slice tail none (some 2)) t8) else if y = Str.ofString "size" then some (.int z t5) else if y = Str.ofString "nmea_str" then some (.str n t4) else (if y = Str.ofString "tail" then some (.str tail t3) else (if y = Str.ofString "star" then some (.str star t2) else (List.lookup y [(Str.ofString "check", .bool false), (Str.ofString "kinds", .ref kd), (Str.ofString "line", .str x t)])))) ∧ News s.heap L h' []) ?_ ?_
  · clear hret hexc'
    k_steps
    rename Fr _ _ _ _ => F9
    exact ⟨rfl, _, _, _, _, _, rfl, F9, fun p hp => nomatch hp⟩
  rintro s' ⟨h7, tk7, t6, t7, t8, rfl, F7, N7⟩
  clear F6 N6
  generalize hu9 : Txt.upper (Txt.slice n none (some z)) = u9 at *
  generalize hds : Txt.slice n (some z) none = ds at *
  generalize hck9 : Txt.slice tail none (some 2) = ck at *
  have hdsl : ds.length ≤ 4096 := Nat.le_trans (hds ▸ PyProof.Txt.length_slice_le n (some z) none) hn
  have hckl : ck.length ≤ 4096 := Nat.le_trans (hck9 ▸ PyProof.Txt.length_slice_le tail none (some 2)) htl
  have hul : u9.length ≤ 3 * 4096 := hu9 ▸ Nat.le_trans (PyProof.Rows.len_upper _) (Nat.mul_le_mul_left 3 (Nat.le_trans (PyProof.Txt.length_slice_le n none (some z)) hn))
  refine wpAny_execs_cons ?_
  iterate 10 (any_goals walk1)
  rename Fr _ _ _ _ => F8
  rename News _ _ _ _ => N8
  refine cut_two F8 N8 (Str.ofString "cs1") (Str.ofString "cs2") (¬ ((ck.length : Int) ≠ 0 ∧ cs ≠ xorFrom 0 n.cps.toList)) ?_ ?_
  · obtain ⟨hxo, hx1⟩ := xorFrom_lt hA
    k_steps
    · rename Fr _ _ _ _ => F9
      refine hexc' 89 ?_ _ _ _ (by assumption) (by assumption)
      unfold parseU
      rw [if_pos (by rw [hck9]; exact ⟨by assumption, by assumption⟩)]
    · rename Fr _ _ _ _ => F9
      rename cs = _ => e9
      exact ⟨rfl, _, _, _, _, rfl, F9, by assumption, fun q => q.2 e9⟩
    · rename Fr _ _ _ _ => F9
      rename (ck.length : Int) = 0 => e9
      exact ⟨rfl, _, _, none, none, rfl, two_same F9, by assumption, fun q => q.1 e9⟩
  intro h9 tk9 o1 o2 F9 N9 hcb
  clear F8
  have hP : parseU n z tail lean cs = parseV u9 ds lean := by
    unfold parseU
    rw [if_neg (by rw [hck9]; exact hcb), hu9, hds]
  have hexc8 := fun C q => hexc' C (hP.trans q)
  rw [hP] at hret hend'
  have hvs9 := strv_len (x := ds) (y := Str.ofString ",") (by assumption) hdsl
  clear hexc' hcb hck htl hck9 hckl hcs0 hcs1 hu9
  have hfr := B.stack
  dsimp only at hfr
  subst hfr
  refine cut_if F9 N9 ((Txt.slice u9 (some 5) none == Str.ofString ",") = false) ?_ ?_
  · k_steps
    · rename kindsF _ _ = _ => e9
      refine hexc8 77 ?_ _ _ _ (by assumption) (by assumption)
      unfold parseV
      rw [if_pos (by assumption), e9]
    · rename kindsF _ _ = _ => e9
      rename Fr _ _ _ _ => F8
      refine NxtR.ret (hret _ _ _ (fun b o q => (by assumption : Heap.StaysIn _ _) b o (Fr.keep F8 b o q)) ?_)
      rw [show parseV u9 ds lean = .talker 310 (Txt.slice u9 none (some 2)) (Txt.slice u9 (some 2) (some 5)) (Txt.split ds (Str.ofString ",")) from by unfold parseV; rw [if_pos (by assumption), e9]]
      walk_at "m_talker"
    · rename kindsF _ _ = _ => e9
      rename Fr _ _ _ _ => F8
      refine NxtR.ret (hret _ _ _ (fun b o q => (by assumption : Heap.StaysIn _ _) b o (Fr.keep F8 b o q)) ?_)
      rw [show parseV u9 ds lean = .talker 292 (Txt.slice u9 none (some 2)) (Txt.slice u9 (some 2) (some 5)) (Txt.split ds (Str.ofString ",")) from by unfold parseV; rw [if_pos (by assumption), e9]]
      walk_at "m_talker"
    · exact NxtR.go ⟨_, _, rfl, by assumption, by assumption, by assumption⟩
  clear F9 N9
  intro h10 tk10 F10 N10 hq1
  refine cut_if F10 N10 (¬ ((Txt.slice u9 (some 4) (some 6) == Str.ofString "Q,") = true ∧ (u9.length : Int) = 9 ∧ (ds.length : Int) = 0)) ?_ ?_
  · k_steps
    all_goals (first
      | (rename (ds.length : Int) ≠ 0 => e9; exact NxtR.go ⟨_, _, rfl, by assumption, by assumption, fun q => e9 q.2.2⟩)
      | (rename (u9.length : Int) ≠ 9 => e9; exact NxtR.go ⟨_, _, rfl, by assumption, by assumption, fun q => e9 q.2.1⟩)
      | (rename ((Txt.slice u9 (some 4) (some 6) == Str.ofString "Q,") = false) => e9; exact NxtR.go ⟨_, _, rfl, by assumption, by assumption, fun q => by rw [q.1] at e9; cases e9⟩)
      | skip)
    rename Fr _ _ _ _ => F8
    refine NxtR.ret (hret _ _ _ (fun b o q => (by assumption : Heap.StaysIn _ _) b o (Fr.keep F8 b o q)) ?_)
    rw [show parseV u9 ds lean = .query (Txt.slice u9 none (some 2)) (Txt.slice u9 (some 2) (some 4)) (Txt.slice u9 (some 6) none) from by unfold parseV; rw [if_neg (by rw [hq1]; decide), if_pos ⟨by assumption, by assumption, by assumption⟩]]
    walk_at "m_query"
  clear F10 N10
  intro h11 tk11 F11 N11 hq2
  refine cut_if F11 N11 ((u9.length : Int) ≠ 4) ?_ ?_
  · k_steps
    · rename Fr _ _ _ _ => F8
      refine NxtR.ret (hret _ _ _ (fun b o q => (by assumption : Heap.StaysIn _ _) b o (Fr.keep F8 b o q)) ?_)
      rw [show parseV u9 ds lean = .maker (Txt.slice u9 (some 1) none) (Txt.split ds (Str.ofString ",")) from by unfold parseV; rw [if_neg (by rw [hq1]; decide), if_neg hq2, if_pos (by assumption)]]
      walk_at "m_maker"
    · exact absurd (by assumption) (kindsF_no4 (by assumption) _)
    · exact absurd (by assumption) (kindsF_no4 (by assumption) _)
    · exact NxtR.go ⟨_, _, rfl, by assumption, by assumption, by assumption⟩
  intro h12 tk12 F12 N12 hq3
  exfalso
  refine hend' ?_
  unfold parseV
  rw [if_neg (by rw [hq1]; decide), if_neg hq2, if_neg hq3]
end Mine
end
-- Gn2
section
open PySem PySem.W PyProof.Rows
set_option maxRecDepth 100000
set_option linter.all false
namespace Mine
abbrev Ln := Str × Int
/-- a line that parse can be asked for -/
structure LineOk (lean : Bool) (l : Ln) : Prop where
  hx : l.1.length ≤ 4096
  hl : (Txt.lstrip l.1).length ≤ 4096
  hn : (dollarS (Txt.partition (Txt.lstrip l.1) (Str.ofString "*")).1).length ≤ 4096
  hA : (dollarS (Txt.partition (Txt.lstrip l.1) (Str.ofString "*")).1).cps.all (· < 128) = true
  hck : ((Txt.slice (Txt.partition (Txt.lstrip l.1) (Str.ofString "*")).2.2 none (some 2)).length : Int) ≠ 0 → reads16 (Txt.slice (Txt.partition (Txt.lstrip l.1) (Str.ofString "*")).2.2 none (some 2)) l.2
  c0 : 0 ≤ l.2
  c1 : l.2 < 256
  hend : parseS l.1 lean l.2 = .err 64 → badS (sizeS (dollarS (Txt.partition (Txt.lstrip l.1) (Str.ofString "*")).1)) (Txt.partition (Txt.lstrip l.1) (Str.ofString "*")).2.1 (Txt.partition (Txt.lstrip l.1) (Str.ofString "*")).2.2
@[irreducible] def resL (lean : Bool) (l : Ln) : PRes := parseS l.1 lean l.2
theorem resL_eq (lean : Bool) (l : Ln) : parseS l.1 lean l.2 = resL lean l := by unfold resL; rfl
/-- what a reader tells of lines, and the error that ends it -/
def evsL (way : Str) (lean : Bool) : List Ln → List PRes × Option Addr
  | [] => ([], none)
  | l :: r => match resL lean l with
    | .err C => if way = Str.ofString "raise" then ([], some C) else if way = Str.ofString "yield" then (.err C :: (evsL way lean r).1, (evsL way lean r).2) else evsL way lean r
    | m => (m :: (evsL way lean r).1, (evsL way lean r).2)
theorem err_cls {x : Str} {lean : Bool} {cs : Int} {C : Addr} (h : parseS x lean cs = .err C) : C = 64 ∨ C = 77 ∨ C = 89 := by
  unfold parseS parseT at h
  split at h
  · cases h; exact .inl rfl
  · unfold parseU at h
    split at h
    · cases h; exact .inr (.inr rfl)
    · unfold parseV at h
      split at h
      · split at h
        · cases h
        · cases h; exact .inr (.inl rfl)
      · split at h
        · cases h
        · split at h
          · cases h
          · cases h; exact .inl rfl
theorem own_cls {P : Params} {C : Addr} (h : C = 64 ∨ C = 77 ∨ C = 89) : ∃ nm q N bs bm hdct sn sub ab col dd k0 k1 k2 k3 k5 newId,
    (hd.heap_39 P).lookup C = some (excClassObj nm q C N bs bm hdct sn sub ab col dd k0 k1 k2 k3 k5 newId) ∧ bm.contains (.type "BaseException") = true ∧
      ∀ D : Addr, (D = 64 ∨ D = 77 ∨ D = 89) → (Value.ref C :: bm).contains (.ref D) = (D == 64 || D == C) := by
  w_top off
  rcases h with rfl | rfl | rfl
  · refine ⟨_, _, _, _, _, _, _, _, _, _, _, _, _, _, _, _, _, (by k_is), by decide +kernel, ?_⟩
    rintro D (rfl | rfl | rfl) <;> decide +kernel
  · refine ⟨_, _, _, _, _, _, _, _, _, _, _, _, _, _, _, _, _, (by k_is), by decide +kernel, ?_⟩
    rintro D (rfl | rfl | rfl) <;> decide +kernel
  · refine ⟨_, _, _, _, _, _, _, _, _, _, _, _, _, _, _, _, _, (by k_is), by decide +kernel, ?_⟩
    rintro D (rfl | rfl | rfl) <;> decide +kernel
/-- a reader's names -/
def IsRd (P : Params) (way buf : Str) (h : Heap) (D : Addr) : Prop :=
  ∃ k1 t1 k2 k3 t3, h.get? D = some (dictOf [ent P (Str.ofString "errors") k1 (.str way t1), ent P (Str.ofString "stream") k2 .none, ent P (Str.ofString "buffer") k3 (.str buf t3)] 3)
/-- what is told of a line, as it lies in the heap -/
def MsgAt (P : Params) (g h : Heap) (r : PRes) (v : Value) : Prop :=
  match r with
  | .err C => (C = 64 ∨ C = 77 ∨ C = 89) ∧ ∃ e o, v = .ref e ∧ h.get? e = some o ∧ o.cls = .ref C ∧ g.get? e = none
  | r => ∃ x, v = .ref x ∧ IsMsg P g h r x
abbrev frs (outer : List Env) : List Addr := outer.filterMap (·.frame)
/-- the names of a turn -/
abbrev gmap (R kd : Addr) (dv : Value) (Lo : Addr) (o1 o2 o3 : Option Value) : Str → Option Value := fun y =>
  if y = Str.ofString "msg" then o3 else if y = Str.ofString "e" then o2 else if y = Str.ofString "line" then o1 else if y = Str.ofString "lines" then some (.ref Lo) else
    List.lookup y [(Str.ofString "data", dv), (Str.ofString "kinds", .ref kd), (Str.ofString "self", .ref R)]
/-- all stays but the frames -/
structure Turned (base : Heap) (L : Addr) (env : Env) (outer : List Env) (h h' : Heap) : Prop where
  keep : KeepBut (L :: frs outer) h h'
  st : base.StaysIn h'
  ff : h'.FunFrames base (env :: outer)
  ns : ∀ b ∈ frs outer, ∀ m, h.Ns b m → h'.Ns b m
end Mine
end
-- Gh
section
local macro_rules | `(tactic| walk_at "mine no such step") => `(tactic| skip)
local macro_rules | `(tactic| walk_at "mine no such step") => `(tactic| skip)
local macro_rules | `(tactic| walk_at "mine no such step") => `(tactic| skip)
local macro_rules | `(tactic| walk_at "mine no such step") => `(tactic| skip)
local macro_rules | `(tactic| walk_at "mine no such step") => `(tactic| skip)
local macro_rules | `(tactic| walk_at "mine no such step") => `(tactic| skip)
local macro_rules | `(tactic| walk_at "mine no such step") => `(tactic| skip)
local macro_rules | `(tactic| walk_at "mine no such step") => `(tactic| skip)
local macro_rules | `(tactic| walk_at "mine no such step") => `(tactic| skip)
local macro_rules | `(tactic| walk_at "mine no such step") => `(tactic| skip)
local macro_rules | `(tactic| walk_at "mine no such step") => `(tactic| skip)
local macro_rules | `(tactic| walk_at "mine no such step") => `(tactic| skip)
local macro_rules | `(tactic| walk_at "mine no such step") => `(tactic| skip)
local macro_rules | `(tactic| walk_at "mine no such step") => `(tactic| skip)
local macro_rules | `(tactic| walk_at "mine no such step") => `(tactic| skip)
local macro_rules | `(tactic| walk_at "mine no such step") => `(tactic| skip)
local macro_rules | `(tactic| walk_at "mine no such step") => `(tactic| skip)
local macro_rules | `(tactic| walk_at "mine no such step") => `(tactic| skip)
local macro_rules | `(tactic| walk_at "mine no such step") => `(tactic| skip)
local macro_rules | `(tactic| walk_at "mine no such step") => `(tactic| skip)
local macro_rules | `(tactic| walk_at "mine no such step") => `(tactic| skip)
local macro_rules | `(tactic| walk_at "mine no such step") => `(tactic| skip)
local macro_rules | `(tactic| walk_at "mine no such step") => `(tactic| skip)
local macro_rules | `(tactic| walk_at "mine no such step") => `(tactic| skip)
local macro_rules | `(tactic| walk_at "mine no such step") => `(tactic| skip)
local macro_rules | `(tactic| walk_at "mine no such step") => `(tactic| skip)
local macro_rules | `(tactic| walk_at "mine no such step") => `(tactic| skip)
local macro_rules | `(tactic| walk_at "mine no such step") => `(tactic| skip)
local macro_rules | `(tactic| walk_at "mine no such step") => `(tactic| skip)
local macro_rules | `(tactic| walk_at "mine no such step") => `(tactic| skip)
local macro_rules | `(tactic| walk_at "mine no such step") => `(tactic| skip)
local macro_rules | `(tactic| walk_at "mine no such step") => `(tactic| skip)
local macro_rules | `(tactic| walk_at "mine no such step") => `(tactic| skip)
local macro_rules | `(tactic| walk_at "mine no such step") => `(tactic| skip)
local macro_rules | `(tactic| walk_at "mine no such step") => `(tactic| skip)
local macro_rules | `(tactic| walk_at "mine no such step") => `(tactic| skip)
local macro_rules | `(tactic| walk_at "mine no such step") => `(tactic| skip)
local macro_rules | `(tactic| walk_at "mine no such step") => `(tactic| skip)
local macro_rules | `(tactic| walk_at "mine no such step") => `(tactic| skip)
local macro_rules | `(tactic| walk_at "mine no such step") => `(tactic| skip)
open PySem PySem.W PyProof.Rows
set_option maxRecDepth 100000
set_option linter.all false
namespace Mine
section
variable {P : Params} {g g' h h' base base' : Heap} {r : PRes} {x L D R e : Addr} {env : Env} {outer l : List Env} {m m' : Str → Option Value} {oD oR : Obj} {cls a0 fl v : Value}
theorem IsMsg.over (i : IsMsg P g h r x) (f : ∀ a, g.get? a = none → base.get? a = none) : IsMsg P base h r x := by
  cases r with
  | err C => exact i.elim
  | talker C n1 n2 dd =>
    obtain ⟨d, l2, l, c, k1, k2, k3, t1, t2, f1, f2, f3, r⟩ := i
    exact ⟨d, l2, l, c, k1, k2, k3, t1, t2, f _ f1, f _ f2, f _ f3, r⟩
  | query n1 n2 n3 =>
    obtain ⟨d, l2, c, k1, k2, k3, k4, t1, t2, t3, f1, f2, f3, r⟩ := i
    exact ⟨d, l2, c, k1, k2, k3, k4, t1, t2, t3, f _ f1, f _ f2, f _ f3, r⟩
  | maker n1 dd =>
    obtain ⟨d, l2, l, c, k1, k2, t1, f1, f2, f3, r⟩ := i
    exact ⟨d, l2, l, c, k1, k2, t1, f _ f1, f _ f2, f _ f3, r⟩
theorem IsMsg.keeps (i : IsMsg P g h r x) (k : ∀ b o, g.get? b = none → h.get? b = some o → h'.get? b = some o) : IsMsg P g h' r x := by
  cases r with
  | err C => exact i.elim
  | talker C n1 n2 dd =>
    obtain ⟨d, l2, l, c, k1, k2, k3, t1, t2, f1, f2, f3, oo, e1, e2, mm, e3⟩ := i
    exact ⟨d, l2, l, c, k1, k2, k3, t1, t2, f1, f2, f3, oo, k _ _ f1 e1, k _ _ f3 e2, mm, k _ _ f2 e3⟩
  | query n1 n2 n3 =>
    obtain ⟨d, l2, c, k1, k2, k3, k4, t1, t2, t3, f1, f2, f3, e1, e2, e3⟩ := i
    exact ⟨d, l2, c, k1, k2, k3, k4, t1, t2, t3, f1, f2, f3, k _ _ f1 e1, k _ _ f3 e2, k _ _ f2 e3⟩
  | maker n1 dd =>
    obtain ⟨d, l2, l, c, k1, k2, t1, f1, f2, f3, e1, e2, mm, e3⟩ := i
    exact ⟨d, l2, l, c, k1, k2, t1, f1, f2, f3, k _ _ f1 e1, k _ _ f3 e2, mm, k _ _ f2 e3⟩
theorem MsgAt.over (i : MsgAt P g h r v) (f : ∀ a, g.get? a = none → base.get? a = none) : MsgAt P base h r v := by
  cases r with
  | err C =>
    obtain ⟨a, e, o, b, c, d, n⟩ := i
    exact ⟨a, e, o, b, c, d, f _ n⟩
  | talker C n1 n2 dd => obtain ⟨x, e, i⟩ := i; exact ⟨x, e, i.over f⟩
  | query n1 n2 n3 => obtain ⟨x, e, i⟩ := i; exact ⟨x, e, i.over f⟩
  | maker n1 dd => obtain ⟨x, e, i⟩ := i; exact ⟨x, e, i.over f⟩
theorem MsgAt.keeps (i : MsgAt P g h r v) (k : ∀ b o, g.get? b = none → h.get? b = some o → h'.get? b = some o) : MsgAt P g h' r v := by
  cases r with
  | err C =>
    obtain ⟨a, e, o, b, c, d, n⟩ := i
    exact ⟨a, e, o, b, k _ _ n c, d, n⟩
  | talker C n1 n2 dd => obtain ⟨x, e, i⟩ := i; exact ⟨x, e, i.keeps k⟩
  | query n1 n2 n3 => obtain ⟨x, e, i⟩ := i; exact ⟨x, e, i.keeps k⟩
  | maker n1 dd => obtain ⟨x, e, i⟩ := i; exact ⟨x, e, i.keeps k⟩
theorem MsgAt.of_msg (i : IsMsg P g h r x) : MsgAt P g h r (.ref x) := by
  cases r with
  | err C => exact i.elim
  | _ => exact ⟨x, rfl, i⟩
theorem funFrames_base (f : h.FunFrames base l) (k : ∀ b ∈ frs l, base'.get? b = none) : h.FunFrames base' l := by
  induction l with
  | nil => trivial
  | cons env rest ih =>
    obtain ⟨a, ⟨b, o, c1, c2, c3, c4⟩, d⟩ := f
    refine ⟨a, ⟨b, o, c1, k b ?_, c3, c4⟩, ih d fun b hb => k b ?_⟩
    · show b ∈ List.filterMap _ _
      rw [List.filterMap_cons, c1]; exact .head _
    · show b ∈ List.filterMap _ _
      rw [List.filterMap_cons, c1]; exact .tail _ hb
theorem frames_none (f : h.FunFrames base l) : ∀ b ∈ frs l, base.get? b = none := fun b hb => (f.mem hb).1
theorem funFrames_keepBut (f : h.FunFrames base (env :: outer)) (hf : env.frame = some L) (hn : h'.Ns L m) (k : ∀ b ∈ frs outer, ∀ o, h.get? b = some o → h'.get? b = some o) : h'.FunFrames base (env :: outer) := by
  obtain ⟨a, ⟨b, o, c1, c2, c3, c4⟩, d⟩ := f
  rw [hf] at c1
  cases c1
  obtain ⟨o', ho', hd'⟩ := ns_notFields hn
  refine ⟨a, ⟨L, o', hf, c2, ho', hd'⟩, ?_⟩
  clear hf hn
  induction outer with
  | nil => trivial
  | cons env rest ih =>
    obtain ⟨a, ⟨b, o, c1, c2, c3, c4⟩, d⟩ := d
    refine ⟨a, ⟨b, o, c1, c2, k b ?_ _ c3, c4⟩, ih (fun b hb => k b ?_) d⟩
    · show b ∈ List.filterMap _ _
      rw [List.filterMap_cons, c1]; exact .head _
    · show b ∈ List.filterMap _ _
      rw [List.filterMap_cons, c1]; exact .tail _ hb
theorem turned_of_keep (st : base.StaysIn h) (gL : base.get? L = none) (ff : h.FunFrames base (env :: outer)) (hf : env.frame = some L) (nL : L ∉ frs outer) (k : KeepBut [L] h h') (hn : h'.Ns L m) : Turned base L env outer h h' := by
  have kf : ∀ b ∈ frs outer, ∀ o, h.get? b = some o → h'.get? b = some o := fun b hb o e => k b o (fun q => by rw [List.mem_singleton.mp q] at hb; exact nL hb) e
  refine ⟨k.mono fun b hb => by rw [List.mem_singleton.mp hb]; exact .head _, fun b o e => k b o (fun q => by rw [List.mem_singleton.mp q, gL] at e; cases e) (st b o e), funFrames_keepBut ff hf hn kf, fun b hb m hm => ?_⟩
  obtain ⟨o, es, ep, ho, r⟩ := hm
  exact ⟨o, es, ep, kf b hb o ho, r⟩
theorem Turned.trans {h'' : Heap} (x : Turned base L env outer h h') (y : Turned base L env outer h' h'') : Turned base L env outer h h'' :=
  ⟨x.keep.trans y.keep, y.st, y.ff, fun b hb m hm => y.ns b hb m (x.ns b hb m hm)⟩
theorem rest_split (hD : h.get? D = some oD) (hR : h.get? R = some oR) : ∀ q ∈ restOf base h [L], q ∈ (D, oD) :: (R, oR) :: restOf base h [L, D, R] := fun ⟨a, o⟩ hq => by
  obtain ⟨x, y, z⟩ := mem_rest.mp hq
  by_cases q1 : a = D
  · subst q1; rw [hD] at z; cases z; exact .head _
  by_cases q2 : a = R
  · subst q2; rw [hR] at z; cases z; exact .tail _ (.head _)
  exact .tail _ (.tail _ (mem_rest.mpr ⟨by simp only [List.mem_cons, List.not_mem_nil, or_false] at x ⊢; simp [x, q1, q2], y, z⟩))
theorem rest_two (hD : h.get? D = some oD) (hR : h.get? R = some oR) (gD : base.get? D = none) (gR : base.get? R = none) (nD : D ≠ L) (nR : R ≠ L) : News base L h ((D, oD) :: (R, oR) :: restOf base h [L, D, R]) := fun q hq => by
  rcases List.mem_cons.mp hq with rfl | hq
  · exact ⟨hD, nD, gD⟩
  rcases List.mem_cons.mp hq with rfl | hq
  · exact ⟨hR, nR, gR⟩
  · exact rest_news (.head _) q hq
/-- an exception over a turn -/
structure Air (base : Heap) (L : Addr) (env : Env) (outer : List Env) (g : Heap) (e : Addr) (cls a0 fl : Value) (m : Str → Option Value) (h : Heap) : Prop where
  st : (hideH (fun b => (L :: frs outer).contains b) g).StaysIn h
  en : (hideH (fun b => (L :: frs outer).contains b) g).get? e = none
  ff : h.FunFrames (hideH (fun b => (L :: frs outer).contains b) g) (env :: outer)
  tr : h.TracedAtW (hideH (fun b => (L :: frs outer).contains b) g) e cls a0 fl
  nsL : h.Ns L m
  ns : ∀ b ∈ frs outer, ∀ m, g.Ns b m → h.Ns b m
theorem Air.fly (a : Air base L env outer g e cls a0 .none m h) : Heap.FlyingW (hideH (fun b => (L :: frs outer).contains b) g) (env :: outer) e cls a0 h := ⟨a.st, a.en, a.ff, a.tr⟩
theorem Air.held (a : Air base L env outer g e cls a0 (rawInt L) m h) : Heap.HeldW (hideH (fun b => (L :: frs outer).contains b) g) (env :: outer) e cls a0 L h := ⟨a.st, a.en, a.ff, a.tr⟩
theorem Air.upF (a : Air base L env outer g e cls a0 fl m h) (f : Heap.FlyingW (hideH (fun b => (L :: frs outer).contains b) g) (env :: outer) e cls a0 h') (u : h.UpToSlots h') : Air base L env outer g e cls a0 .none m h' :=
  ⟨f.1, f.2.1, f.2.2.1, f.2.2.2, u.ns a.nsL, fun b hb m hm => u.ns (a.ns b hb m hm)⟩
theorem Air.upH (a : Air base L env outer g e cls a0 fl m h) (f : Heap.HeldW (hideH (fun b => (L :: frs outer).contains b) g) (env :: outer) e cls a0 L h') (u : h.UpToSlots h') : Air base L env outer g e cls a0 (rawInt L) m h' :=
  ⟨f.1, f.2.1, f.2.2.1, f.2.2.2, u.ns a.nsL, fun b hb m hm => u.ns (a.ns b hb m hm)⟩
theorem Air.set (a : Air base L env outer g e cls a0 fl m h) (nL : L ∉ frs outer) (hn : h'.Ns L m') (hs : Heap.SameBut L h h') : Air base L env outer g e cls a0 fl m' h' :=
  ⟨stays_set a.st (hide_none (by simp)) hs, a.en, funFrames_set a.ff hn hs, traced_set a.tr (ns_notFields a.nsL) hs, hn, fun b hb m hm =>
    (a.ns b hb m hm).sameBut hs fun q => nL (q ▸ hb)⟩
theorem Air.down (a : Air base L env outer g e cls a0 fl m h) (k : base.StaysIn g) (gf : ∀ b ∈ frs (env :: outer), base.get? b = none) (hf : env.frame = some L) : base.StaysIn h ∧ base.get? e = none ∧ h.FunFrames base (env :: outer) ∧ h.TracedAtW base e cls a0 fl := by
  have gf' : ∀ b, (L :: frs outer).contains b = true → base.get? b = none := fun b hb => gf b (by
    show b ∈ List.filterMap _ _
    rw [List.filterMap_cons, hf]
    simpa using hb)
  have k' := stays_hide k gf'
  have fr : ∀ a, (hideH (fun b => (L :: frs outer).contains b) g).get? a = none → base.get? a = none := fun a q => by
    cases z : base.get? a with
    | none => rfl
    | some o => rw [k' a o z] at q; cases q
  refine ⟨fun b o q => a.st b o (k' b o q), fr _ a.en, funFrames_base a.ff gf, ?_⟩
  obtain ⟨oe, vs, T, oT, ts, he, hc, hd, h1, hb, r⟩ := a.tr
  exact ⟨oe, vs, T, oT, ts, he, hc, hd, h1, fr _ hb, r⟩
theorem Air.turned (a : Air base L env outer g e cls a0 fl m h) (k : base.StaysIn g) (gf : ∀ b ∈ frs (env :: outer), base.get? b = none) (hf : env.frame = some L) : Turned base L env outer g h := by
  obtain ⟨b1, _, b3, _⟩ := a.down k gf hf
  refine ⟨fun b o n q => a.st b o ?_, b1, b3, a.ns⟩
  rw [hide_some (by simpa using n)]; exact q
end
theorem next_fn {K : Frag} {f : Addr} {P : Prop} {oc oc' : Value} {od od' : Option Addr} {osl osl' : Array (Option Value)} {name qual name' qual' : Str} {params params' : Arguments} {s1 s2 s3 ty yy s1' s2' s3' ty' yy' : Stmt} {tg it tg' it' : Expr} {p p' : Pos} {scope scope' : Scope} {dV kV doc pm cdv ct dV' kV' doc' pm' cdv' ct' : Value} {an an' : Option Addr}
   (hf : K.lookup f = some ⟨oc, od, .func (fnOf name qual params [s1, s2, s3, .For tg it [ty, yy] [] p] scope dV kV doc pm an cdv ct), osl⟩)
   (h2 : K.lookup f = some ⟨oc', od', .func (fnOf name' qual' params' [s1', s2', s3', .For tg' it' [ty', yy'] [] p'] scope' dV' kV' doc' pm' an' cdv' ct'), osl'⟩)
   (k : qual = qual' → s1 = s1' → s2 = s2' → s3 = s3' → tg = tg' → it = it' → ty = ty' → yy = yy' → scope = scope' → cdv = cdv' → P) : P := by
  rw [hf] at h2
  cases h2
  exact k rfl rfl rfl rfl rfl rfl rfl rfl rfl rfl
section
variable {R kd Lo : Addr} {dv v : Value} {o1 o2 o3 u : Option Value}
theorem gmap_e (y : Str) : (if y = Str.ofString "e" then u else gmap R kd dv Lo o1 o2 o3 y) = gmap R kd dv Lo o1 u o3 y := by
  unfold gmap
  by_cases q : y = Str.ofString "e"
  · subst q; rw [if_pos rfl, if_neg (by decide), if_pos rfl]
  · simp [q]
theorem gmap_msg (y : Str) : (if y = Str.ofString "msg" then u else gmap R kd dv Lo o1 o2 o3 y) = gmap R kd dv Lo o1 o2 u y := by
  unfold gmap
  by_cases q : y = Str.ofString "msg"
  · subst q; simp
  · simp [q]
theorem gmap_line (y : Str) : (if y = Str.ofString "line" then u else gmap R kd dv Lo o1 o2 o3 y) = gmap R kd dv Lo u o2 o3 y := by
  unfold gmap
  by_cases q : y = Str.ofString "line"
  · subst q; rw [if_pos rfl, if_neg (by decide), if_neg (by decide), if_pos rfl]
  · simp [q]
end
theorem ns_congr {h : Heap} {L : Addr} {m m' : Str → Option Value} (n : h.Ns L m) (k : ∀ y, m y = m' y) : h.Ns L m' := (funext k : m = m') ▸ n
end Mine
end
-- Gn3
section
open PySem PySem.W PyProof.Rows
set_option maxRecDepth 100000
set_option linter.all false
namespace Mine
set_option maxHeartbeats 8000000 in
theorem turn_try {prog : Program} {w : World} {mean : ExcName → Option Value} {mg mb : Str → Option Value} {loose : List Str}
   {oc : Value} {od : Option Addr} {osl : Array (Option Value)} {name qual : Str} {params : Arguments} {s1 s2 s3 ty yy : Stmt} {tg it : Expr} {p : Pos} {scope : Scope} {dV kV doc pm cdv ct : Value} {an : Option Addr}
   {A : Around} {outer : List Env} {base : Heap} {s : Shared} {Q : Flow → Shared → Prop} {E : Value → Shared → Prop} {L R D kd Lo : Addr} {dv : Value} {o2 o3 : Option Value} {l : Ln} {tl : Tok} {way buf : Str} {lean : Bool}
   (hf : (hd.heap_39 w.params).lookup 270 = some ⟨oc, od, .func (fnOf name qual params [s1, s2, s3, .For tg it [ty, yy] [] p] scope dV kV doc pm an cdv ct), osl⟩)
   (OA : OkA A (envOf qual scope L 270 cdv :: outer) 700) (X : (hd.heap_39 w.params).In base) (T : Top hd.view_39 loose mean mg mb base) (hsz : base.objs.size ≤ L)
   (hL : s.heap.Ns L (gmap R kd dv Lo (some (.str l.1 tl)) o2 o3)) (hb : base.StaysIn s.heap) (ff : s.heap.FunFrames base (envOf qual scope L 270 cdv :: outer))
   (hR : s.heap.get? R = some (instObj 273 D)) (hD : IsRd w.params way buf s.heap D) (hkd : s.heap.MapOf (strKind prog w) kd (kindsF lean)) (hkm : (kd == sysModules) = false)
   (gR : base.get? R = none) (gD : base.get? D = none) (nR : R ∉ L :: frs outer) (nD : D ∉ L :: frs outer) (nL : L ∉ frs outer) (nRD : R ≠ D)
   (ok : LineOk lean l) (hw : way = Str.ofString "raise" ∨ way = Str.ofString "yield" ∨ way = Str.ofString "ignore")
   (hmsg : ∀ h' tk' v o2', MsgAt w.params s.heap h' (resL lean l) v → (∀ C, resL lean l = .err C → way = Str.ofString "yield") → Turned base L (envOf qual scope L 270 cdv) outer s.heap h' → h'.Ns L (gmap R kd dv Lo (some (.str l.1 tl)) o2' (some v)) → Q .next { s with heap := h', toks := tk' })
   (hign : ∀ h' tk' C o2', resL lean l = .err C → way = Str.ofString "ignore" → Turned base L (envOf qual scope L 270 cdv) outer s.heap h' → h'.Ns L (gmap R kd dv Lo (some (.str l.1 tl)) o2' o3) → Q .cont { s with heap := h', toks := tk' })
   (hrai : ∀ h' tk' C e a0 m, resL lean l = .err C → way = Str.ofString "raise" → Air base L (envOf qual scope L 270 cdv) outer s.heap e (.ref C) a0 (rawInt L) m h' → E (.ref e) { s with heap := h', toks := tk' }) :
   wpAny (model prog w) A (exec ty (envOf qual scope L 270 cdv)) Q E s := by
  w_top off
  refine' next_fn hf ?kk ?_
  case kk => k_is
  rintro rfl rfl rfl rfl rfl rfl rfl rfl rfl rfl
  clear hf
  obtain ⟨hd0, dp, fr0, gd, un⟩ := A
  obtain ⟨a1, a2, a3, a4⟩ := OA
  dsimp only at a1 a2 a3 a4
  subst a1 a2
  have hroom : dp < recursionLimit := Nat.lt_of_lt_of_le a3 (by decide)
  have F0 : Fr base L s.heap (gmap R kd dv Lo (some (.str l.1 tl)) o2 o3) := ⟨hL, hb, hsz⟩
  have N0 : News base L s.heap (restOf base s.heap [L]) := rest_news (by simp)
  refine wpAny_Try_except ?_
  refine wpAny_execs_cons ?_
  iterate 12 walk1
  clear F0 N0
  have gfr : ∀ b ∈ L :: frs outer, base.get? b = none := frames_none ff
  have Bp : Below (⟨none, dp, some (envOf (Str.ofString "NMEAStreamReader.next") _ L 270 (.ref 269) :: outer), gd, un⟩ : Around) (hideH (fun b => (L :: frs outer).contains b) s.heap) _ s.heap := ⟨rfl, hide_stays, funFrames_base ff fun b hb => hide_none (List.contains_iff_mem.mpr (show b ∈ L :: frs outer from hb))⟩
  refine wpAny_call ?_
  refine' parse_spec (X.keeps hb) (T.keeps hb) Bp rfl (by show dp < 800; omega) (by show un < 8000; omega) ok.hx ok.hl ok.hn ok.hA hkd hkm ok.hck ok.c0 ok.c1 ?hret ok.hend ?hexc
  case hret =>
    intro h1 tk1 a k1 im
    dsimp only at k1 im ⊢
    refine wpAny_storeName_local rfl (hL.keeps k1) (fun h2 hn2 hs2 => ?_)
    dsimp only
    refine wpAny_execs_nil (wpAny_execs_nil ?_)
    have hsL : ∀ b, s.heap.get? b = none → b ≠ L := fun b q x => by
      obtain ⟨o, es, ep, ho, _⟩ := hL
      rw [x, ho] at q; cases q
    rw [resL_eq] at im
    have im2 : IsMsg w.params s.heap h2 (resL lean l) a := im.keeps fun b o q z => (hs2.2 b (hsL b q)).trans z
    have tn : Turned base L (envOf (Str.ofString "NMEAStreamReader.next") _ L 270 (.ref 269)) outer s.heap h2 := turned_of_keep hb (gfr L (.head _)) ff rfl nL (fun b o n q => by
      rw [hs2.2 b (fun x => n (by rw [show b = L from x]; exact .head _))]; exact k1 b o q) hn2
    have hno : ∀ C, resL lean l = .err C → way = Str.ofString "yield" := fun C q => by
      rw [q] at im
      exact im.elim
    have hm2 := MsgAt.of_msg im2
    have ns2 := ns_congr hn2 gmap_msg
    clear im im2 hn2 hs2
    exact hmsg h2 _ (.ref a) o2 hm2 hno tn ns2
  case hexc =>
    intro C hC h1 tk1 e fl up
    have hC' := err_cls hC
    rw [resL_eq] at hC
    obtain ⟨a0, fl⟩ := fl
    dsimp only at up ⊢
    have air1 : Air base L (envOf (Str.ofString "NMEAStreamReader.next") _ L 270 (.ref 269)) outer s.heap e (.ref C) a0 .none _ h1 := ⟨fl.1, fl.2.1, fl.2.2.1, fl.2.2.2, up.ns hL, fun b hb m hm => up.ns hm⟩
    clear fl up
    refine wpAny_looks_onW rfl rfl air1.fly fun h2 held2 u2 => ?_
    have air2 := air1.upH held2 u2
    refine wpAny_landsW air2.held fun h3 fl3 u3 => ?_
    have air3 := air2.upF fl3 u3
    dsimp only
    clear air1 air2 held2 fl3 u2 u3
    have b3 := air3.down hb gfr rfl
    have F3 : Fr base L h3 _ := ⟨air3.nsL, b3.1, hsz⟩
    obtain ⟨nm, q9, N9, bs, bm, hdct, sn, sub, ab, col, dd, k0, k1, k2, k3, k5, newId, K9, B9, C9⟩ := own_cls (P := w.params) hC'
    obtain ⟨nm', q9', N9', bs', bm', hdct', sn', sub', ab', col', dd', k0', k1', k2', k3', k5', newId', K9', B9', C9'⟩ := own_cls (P := w.params) (C := 64) (.inl rfl)
    obtain ⟨oe, hoe, hoec⟩ := air3.fly.there
    have hC3 := b3.1 _ _ (X _ _ K9)
    have hD3 := b3.1 _ _ (X _ _ K9')
    have hm3 : (Value.ref C :: bm).contains (.ref 64) = true := by rw [C9 64 (.inl rfl)]; rfl
    refine clause_hit_own_as (fun Q' E' q => name_K F3 X (topRead_of T) (by k_is) q) hC3 hD3 hoe hoec B9' hm3 ?_
    refine lands_againW air3.fly fun h4 fl4 u4 => ?_
    have air4 := air3.upF fl4 u4
    refine wpAny_storeName_local rfl air4.nsL (fun h5 hn5 hs5 => ?_)
    have air5 := air4.set nL (ns_congr hn5 gmap_e) hs5
    clear air3 air4 F3 hoe hoec hn5 hs5 fl4 u4 b3
    dsimp only
    obtain ⟨kk1, tt1, kk2, kk3, tt3, hD⟩ := hD
    have hD5 := air5.st D _ ((hide_some (by simpa using nD)).trans hD)
    have hR5 := air5.st R _ ((hide_some (by simpa using nR)).trans hR)
    have nDL : D ≠ L := fun q => nD (q ▸ .head _)
    have nRL : R ≠ L := fun q => nR (q ▸ .head _)
    have b5 := air5.down hb gfr rfl
    have F5 : Fr base L h5 _ := ⟨air5.nsL, b5.1, hsz⟩
    have N5 : News base L h5 _ := rest_two hD5 hR5 gD gR nDL nRL
    have sp5 := rest_split (base := base) (L := L) hD5 hR5
    clear hD5 hR5
    generalize restOf base h5 [L, D, R] = others at N5 sp5
    rcases hw with rfl | rfl | rfl
    · refine wpAny_execs_cons ?_
      iterate 9 walk1
      refine wpAny_execs_cons ?_
      refine raise_again rfl B9 (fun Q' E' q => ld F5 (by rfl) q) (b5.1 _ _ (X _ _ K9)) air5.fly fun h6 fl6 u6 => ?_
      have air6 := air5.upF fl6 u6
      refine wpAny_looks_onW rfl rfl air6.fly fun h7 held7 u7 => ?_
      have air7 := air6.upH held7 u7
      refine wpAny_nameGoes_keeps rfl air7.nsL rfl fun h8 v hn8 hs8 => ?_
      have air8 := air7.set nL (ns_congr hn8 gmap_e) hs8
      refine passOn_at rfl air8.held fun h9 held9 u9 => ?_
      have air9 := air8.upH held9 u9
      refine wpAny_noteFrame_againW rfl air9.tr ?_
      refine cameBack_at rfl air9.held fun h10 held10 u10 => ?_
      have air10 := air9.upH held10 u10
      clear air6 air7 air8 air9 fl6 u6 held7 u7 hn8 hs8 held9 u9 u10
      exact hrai h10 _ C e a0 _ hC rfl air10
    · have tn5 := air5.turned hb gfr rfl
      obtain ⟨oe', vs', _, _, _, hoe', hoc', hod', _⟩ := air5.tr
      have neL : e ≠ L := fun q => by
        obtain ⟨o', ho', hd'⟩ := ns_notFields air5.nsL
        rw [← q, hoe'] at ho'; cases ho'; exact hd' _ hod'
      have efr : s.heap.get? e = none := by
        have q := air5.en
        rw [hide_get] at q
        split at q
        · rename_i hc
          obtain ⟨_, o', ho', hd'⟩ := air5.ff.mem (b := e) (List.contains_iff_mem.mp hc)
          rw [hoe'] at ho'; cases ho'; exact absurd hod' (hd' _)
        · exact q
      clear air5
      k_steps
      rename Fr _ _ _ _ => F9
      rename News _ _ _ _ => N9
      have kb := keepBut_of F9 N9 sp5 b5.1
      have tn9 := tn5.trans (turned_of_keep b5.1 (gfr L (.head _)) b5.2.2.1 rfl nL kb F9.ns)
      refine hmsg _ _ (.ref e) _ ?_ (fun _ _ => rfl) tn9 (ns_congr F9.ns fun y => by rw [gmap_msg]; exact gmap_e y)
      rw [hC]
      exact ⟨hC', e, oe', rfl, kb e _ (fun q => neL (List.mem_singleton.mp q)) hoe', hoc'.1, efr⟩
    · have tn5 := air5.turned hb gfr rfl
      clear air5
      k_steps
      rename Fr _ _ _ _ => F9
      rename News _ _ _ _ => N9
      have kb := keepBut_of F9 N9 sp5 b5.1
      have tn9 := tn5.trans (turned_of_keep b5.1 (gfr L (.head _)) b5.2.2.1 rfl nL kb F9.ns)
      exact hign _ _ C _ hC rfl tn9 (ns_congr F9.ns gmap_e)
end Mine
end
-- Gn4
section
local macro_rules | `(tactic| walk_at "mine no such step") => `(tactic| skip)
local macro_rules | `(tactic| walk_at "mine no such step") => `(tactic| skip)
local macro_rules | `(tactic| walk_at "mine no such step") => `(tactic| skip)
local macro_rules | `(tactic| walk_at "mine no such step") => `(tactic| skip)
local macro_rules | `(tactic| walk_at "mine no such step") => `(tactic| skip)
local macro_rules | `(tactic| walk_at "mine no such step") => `(tactic| skip)
local macro_rules | `(tactic| walk_at "mine no such step") => `(tactic| skip)
local macro_rules | `(tactic| walk_at "mine no such step") => `(tactic| skip)
local macro_rules | `(tactic| walk_at "mine no such step") => `(tactic| skip)
local macro_rules | `(tactic| walk_at "mine no such step") => `(tactic| skip)
local macro_rules | `(tactic| walk_at "mine no such step") => `(tactic| skip)
local macro_rules | `(tactic| walk_at "mine no such step") => `(tactic| skip)
local macro_rules | `(tactic| walk_at "mine no such step") => `(tactic| skip)
local macro_rules | `(tactic| walk_at "mine no such step") => `(tactic| skip)
local macro_rules | `(tactic| walk_at "mine no such step") => `(tactic| skip)
local macro_rules | `(tactic| walk_at "mine no such step") => `(tactic| skip)
local macro_rules | `(tactic| walk_at "mine no such step") => `(tactic| skip)
local macro_rules | `(tactic| walk_at "mine no such step") => `(tactic| skip)
local macro_rules | `(tactic| walk_at "mine no such step") => `(tactic| skip)
local macro_rules | `(tactic| walk_at "mine no such step") => `(tactic| skip)
local macro_rules | `(tactic| walk_at "mine no such step") => `(tactic| skip)
local macro_rules | `(tactic| walk_at "mine no such step") => `(tactic| skip)
local macro_rules | `(tactic| walk_at "mine no such step") => `(tactic| skip)
local macro_rules | `(tactic| walk_at "mine no such step") => `(tactic| skip)
local macro_rules | `(tactic| walk_at "mine no such step") => `(tactic| skip)
local macro_rules | `(tactic| walk_at "mine no such step") => `(tactic| skip)
local macro_rules | `(tactic| walk_at "mine no such step") => `(tactic| skip)
local macro_rules | `(tactic| walk_at "mine no such step") => `(tactic| skip)
local macro_rules | `(tactic| walk_at "mine no such step") => `(tactic| skip)
local macro_rules | `(tactic| walk_at "mine no such step") => `(tactic| skip)
local macro_rules | `(tactic| walk_at "mine no such step") => `(tactic| skip)
local macro_rules | `(tactic| walk_at "mine no such step") => `(tactic| skip)
local macro_rules | `(tactic| walk_at "mine no such step") => `(tactic| skip)
local macro_rules | `(tactic| walk_at "mine no such step") => `(tactic| skip)
local macro_rules | `(tactic| walk_at "mine no such step") => `(tactic| skip)
local macro_rules | `(tactic| walk_at "mine no such step") => `(tactic| skip)
local macro_rules | `(tactic| walk_at "mine no such step") => `(tactic| skip)
local macro_rules | `(tactic| walk_at "mine no such step") => `(tactic| skip)
local macro_rules | `(tactic| walk_at "mine no such step") => `(tactic| skip)
local macro_rules | `(tactic| walk_at "mine no such step") => `(tactic| skip)
open PySem PySem.W PyProof.Rows
set_option maxRecDepth 100000
set_option linter.all false
namespace Mine
/-- what a turn leaves as it is -/
structure GKeep (base : Heap) (L D : Addr) (outer : List Env) (h h' : Heap) : Prop where
  keep : ∀ b o, b ∉ L :: D :: frs outer → ((∀ vs, o.data ≠ .fields vs) ∨ o.cls = .type "generator") → h.get? b = some o → h'.get? b = some o
  st : base.StaysIn h'
  ff : h'.FunFrames base outer
  ns : ∀ b ∈ frs outer, ∀ m, h.Ns b m → h'.Ns b m
/-- what the asking one leaves as it is -/
structure CKeep (base : Heap) (cons : List Addr) (outer : List Env) (h h' : Heap) : Prop where
  keep : KeepBut cons h h'
  st : base.StaysIn h'
  ff : h'.FunFrames base outer
  ca : ∀ b ∈ cons, ∃ o, h'.get? b = some o
abbrev Same (s s' : Shared) : Prop := ∃ tk, s' = { s with heap := s'.heap, toks := tk }
theorem Same.trans {a b c : Shared} (x : Same a b) (y : Same b c) : Same a c := by
  obtain ⟨t, e⟩ := x
  obtain ⟨t', e'⟩ := y
  refine ⟨t', ?_⟩
  rw [e', e]
def protY (P : Params) (gc base : Heap) (L D : Addr) (outer : List Env) (cons : List Addr) (way bf : Str) (evs : List PRes) : Protocol := fun n s0 v s1 kap =>
  (∃ r, evs[evs.length - (n + 1)]? = some r ∧ MsgAt P gc s1.heap r v) ∧ Same s0 s1 ∧ GKeep base L D outer s0.heap s1.heap ∧ IsRd P way bf s1.heap D ∧ (∃ o, s1.heap.get? L = some o) ∧ ∀ s2, CKeep base cons outer s1.heap s2.heap → kap (.send .none) s2
def endR (P : Params) (base : Heap) (L D : Addr) (outer : List Env) (way bf : Str) (fin : Option Addr) : GenEnd := fun n s0 r s1 =>
  n = 0 ∧ Same s0 s1 ∧ GKeep base L D outer s0.heap s1.heap ∧ IsRd P way bf s1.heap D ∧
    match fin with
    | none => r = .ok (.ret .none)
    | some C => ∃ e a0, r = .error (.ref e) ∧ Heap.FlyingW base outer e (.ref C) a0 s1.heap
structure Apart (L I Lo R D kd : Addr) (outer : List Env) (cons : List Addr) : Prop where
  nL : L ∉ frs outer
  nA : ∀ b ∈ [I, Lo, R, D, kd], b ∉ L :: frs outer
  nI : I ∉ [Lo, R, D, kd]
  nRD : R ≠ D
  nC : ∀ b ∈ [L, I, Lo, R, D, kd], b ∉ cons
/-- a generator before its next line -/
structure LI (prog : Program) (w : World) (base : Heap) (env : Env) (outer : List Env) (L I Lo R D kd : Addr) (dv : Value) (way bf : Str) (lean : Bool) (cons : List Addr) (rest : List Ln) (h : Heap) : Prop where
  ns : ∃ o1 o2 o3, h.Ns L (gmap R kd dv Lo o1 o2 o3)
  it : ∃ i items, h.IsListIter I Lo i ∧ h.IsList Lo items ∧ items.size = i + rest.length ∧ ∀ j l, rest[j]? = some l → ∃ t, items[i + j]? = some (.str l.1 t)
  rd : h.get? R = some (instObj 273 D)
  rdd : IsRd w.params way bf h D
  kd : h.MapOf (strKind prog w) kd (kindsF lean)
  st : base.StaysIn h
  ff : h.FunFrames base (env :: outer)
  ca : ∀ b ∈ cons, ∃ o, h.get? b = some o
section
variable {prog : Program} {w : World} {base h h' : Heap} {env : Env} {outer : List Env} {L I Lo R D kd : Addr} {dv : Value} {way bf : Str} {lean : Bool} {rest : List Ln} {cons : List Addr} {m : Str → Option Value}
theorem mapOf_at {k : KeyKind prog w Str} {a : Addr} {f : Str → Option Value} (x : h.MapOf k a f) (e : ∀ o, h.get? a = some o → h'.get? a = some o) : h'.MapOf k a f := by
  obtain ⟨o, es, ep, q, r⟩ := x
  exact ⟨o, es, ep, e _ q, r⟩
theorem isRd_at {P : Params} (x : IsRd P way bf h D) (e : ∀ o, h.get? D = some o → h'.get? D = some o) : IsRd P way bf h' D := by
  obtain ⟨k1, t1, k2, k3, t3, q⟩ := x
  exact ⟨k1, t1, k2, k3, t3, e _ q⟩
/-- the facts but those of the frame and the frames -/
theorem LI.move (x : LI prog w base env outer L I Lo R D kd dv way bf lean cons rest h) (k : ∀ b ∈ [I, Lo, R, D, kd], ∀ o, h.get? b = some o → h'.get? b = some o)
    (hn : ∃ o1 o2 o3, h'.Ns L (gmap R kd dv Lo o1 o2 o3)) (st : base.StaysIn h') (ff : h'.FunFrames base (env :: outer)) (ca : ∀ b ∈ cons, ∃ o, h'.get? b = some o) : LI prog w base env outer L I Lo R D kd dv way bf lean cons rest h' := by
  obtain ⟨i, items, a, b, c, d⟩ := x.it
  exact ⟨hn, ⟨i, items, a.at (k I (by simp)), b.at (k Lo (by simp)), c, d⟩, k R (by simp) _ x.rd, isRd_at x.rdd (k D (by simp)), mapOf_at x.kd (k kd (by simp)), st, ff, ca⟩
theorem LI.turned (x : LI prog w base env outer L I Lo R D kd dv way bf lean cons rest h) (ap : Apart L I Lo R D kd outer cons) (t : Turned base L env outer h h') (hn : ∃ o1 o2 o3, h'.Ns L (gmap R kd dv Lo o1 o2 o3)) : LI prog w base env outer L I Lo R D kd dv way bf lean cons rest h' :=
  x.move (fun b hb o e => t.keep b o (ap.nA b hb) e) hn t.st t.ff fun b hb => by
    by_cases q : b ∈ L :: frs outer
    · rcases List.mem_cons.mp q with q | q
      · obtain ⟨_, _, _, o, _, _, e, _⟩ := hn
        exact ⟨o, q ▸ e⟩
      · obtain ⟨_, o, e, _⟩ := t.ff.2.2.mem q
        exact ⟨o, e⟩
    · obtain ⟨o, e⟩ := x.ca b hb
      exact ⟨o, t.keep b o q e⟩
theorem LI.asked (x : LI prog w base env outer L I Lo R D kd dv way bf lean cons rest h) (ap : Apart L I Lo R D kd outer cons) (hf : env.frame = some L) (c : CKeep base cons outer h h') : LI prog w base env outer L I Lo R D kd dv way bf lean cons rest h' := by
  have hL : ∃ o1 o2 o3, h'.Ns L (gmap R kd dv Lo o1 o2 o3) := by
    obtain ⟨o1, o2, o3, o, es, ep, q, r⟩ := x.ns
    exact ⟨o1, o2, o3, o, es, ep, c.keep L o (ap.nC L (by simp)) q, r⟩
  refine x.move (fun b hb o e => c.keep b o (ap.nC b (List.mem_cons_of_mem _ hb)) e) hL c.st ?_ c.ca
  obtain ⟨k1, ⟨b, o, c1, c2, c3, c4⟩, _⟩ := x.ff
  rw [hf] at c1
  cases c1
  obtain ⟨_, _, _, hL⟩ := hL
  obtain ⟨o', ho', hd'⟩ := ns_notFields hL
  exact ⟨k1, ⟨L, o', hf, c2, ho', hd'⟩, c.ff⟩
theorem gkeep_of_turned (t : Turned base L env outer h h') (hff : h'.FunFrames base outer) : GKeep base L D outer h h' :=
  ⟨fun b o n _ e => t.keep b o (fun q => n (by rcases List.mem_cons.mp q with q | q; exact q ▸ .head _; exact .tail _ (.tail _ q))) e, t.st, hff, t.ns⟩
theorem GKeep.trans {h'' : Heap} (x : GKeep base L D outer h h') (y : GKeep base L D outer h' h'') : GKeep base L D outer h h'' :=
  ⟨fun b o n c e => y.keep b o n c (x.keep b o n c e), y.st, y.ff, fun b hb m hm => y.ns b hb m (x.ns b hb m hm)⟩
theorem GKeep.refl (st : base.StaysIn h) (ff : h.FunFrames base outer) : GKeep base L D outer h h := ⟨fun _ _ _ _ e => e, st, ff, fun _ _ _ x => x⟩
end
end Mine
end
-- Gn5
section
open PySem PySem.W PyProof.Rows
set_option maxRecDepth 100000
set_option linter.all false
namespace Mine
section
variable {prog : Program} {w : World} {A : Around} {E : Value → Shared → Prop} {s : Shared} {env : Env} {base : Heap} {l outer : List Env} {e L : Addr} {cls a0 fl : Value}
theorem cameBack_do {Q : Unit → Shared → Prop} (hf : env.frame = some L) (hh : Heap.HeldW base l e cls a0 L s.heap)
    (h : ∀ h', Heap.HeldW base l e cls a0 L h' → s.heap.UpToSlots h' → Q () { s with heap := h' }) : wpAny (model prog w) A (do
        if (← field (.ref e) 1) == Value.none then unsupported "frame.own-activation:exception-without-traceback"
        setFlight (.ref e) env.frame : Sem Unit) Q E s := by
  have hh' := hh
  obtain ⟨f1, f2, f3, oe, vs, T, oT, ts, he, hcls, hd, h1, r⟩ := hh'
  refine wpAny_bind (wpAny_field he hd h1 ?_)
  rw [if_neg (show ¬ ((Value.ref T == Value.none) = true) from Bool.false_ne_true)]
  exact setFlight_at hf f1 f2 f3 hh.2.2.2 h
end
theorem gkeep_ext {base h h' : Heap} {L D a : Addr} {outer : List Env} (st : base.StaysIn h) (ff : h.FunFrames base outer) (na : a ∉ frs outer) (ga : base.get? a = none) (ha : a = L ∨ ∃ o, h.get? a = some o ∧ o.cls = .type "list_iterator" ∧ ∃ vs, o.data = .fields vs) (hs : ∀ b o, b ≠ a → h.get? b = some o → h'.get? b = some o) : GKeep base L D outer h h' := by
  have kf : ∀ b ∈ frs outer, ∀ o, h.get? b = some o → h'.get? b = some o := fun b hb o e => hs b o (fun q => na (q ▸ hb)) e
  refine ⟨fun b o n c e => hs b o (fun q => ?_) e, fun b o e => hs b o (fun q => ?_) (st b o e), ?_, fun b hb m hm => ?_⟩
  · subst q
    rcases ha with q | ⟨o', ho', hc', vs, hd'⟩
    · exact n (q ▸ .head _)
    · rw [e] at ho'; cases ho'
      rcases c with c | c
      · exact c vs hd'
      · rw [hc'] at c; exact absurd c (by decide)
  · subst q; rw [ga] at e; cases e
  · clear ha hs st
    induction outer with
    | nil => trivial
    | cons env rest ih =>
      obtain ⟨a, ⟨b, o, c1, c2, c3, c4⟩, d⟩ := ff
      refine ⟨a, ⟨b, o, c1, c2, kf b ?_ _ c3, c4⟩, ih d (fun q => na ?_) (fun b hb => kf b ?_)⟩
      · show b ∈ List.filterMap _ _
        rw [List.filterMap_cons, c1]; exact .head _
      · show _ ∈ List.filterMap _ _
        rw [List.filterMap_cons, c1]; exact .tail _ q
      · show b ∈ List.filterMap _ _
        rw [List.filterMap_cons, c1]; exact .tail _ hb
  · obtain ⟨o, es, ep, ho, r⟩ := hm
    exact ⟨o, es, ep, kf b hb o ho, r⟩
theorem funFrames_at {base h h' : Heap} {l : List Env} {L : Addr} (ff : h.FunFrames base l) (n : L ∉ frs l) (hs : Heap.SameBut L h h') : h'.FunFrames base l := by
  induction l with
  | nil => trivial
  | cons env rest ih =>
    obtain ⟨a, ⟨b, o, c1, c2, c3, c4⟩, d⟩ := ff
    have e : frs (env :: rest) = b :: frs rest := by
      show List.filterMap _ _ = _
      rw [List.filterMap_cons, c1]
    rw [e] at n
    exact ⟨a, ⟨b, o, c1, c2, (hs.2 b fun q => n (q ▸ .head _)).trans c3, c4⟩, ih d fun q => n (.tail _ q)⟩
theorem OkA.mono {A : Around} {outer : List Env} {n k : Nat} (h : OkA A outer n) (hk : n ≤ k) : OkA A outer k :=
  ⟨h.handled, h.frames, Nat.lt_of_lt_of_le h.depth hk, Nat.lt_of_lt_of_le h.units (Nat.mul_le_mul_left 10 hk)⟩
def retK : Flow → Sem Fin := fun f => .pure (.done (.ret (match f with | .ret v => v | _ => .none)))
def leaveH (env : Env) : Value → Sem Fin := fun e => (leaving env e).wrap (fun _ => .raise e) .raise id id
theorem evsL_cons (way : Str) (lean : Bool) (l : Ln) (r : List Ln) : evsL way lean (l :: r) = match resL lean l with
    | .err C => if way = Str.ofString "raise" then ([], some C) else if way = Str.ofString "yield" then (.err C :: (evsL way lean r).1, (evsL way lean r).2) else evsL way lean r
    | m => (m :: (evsL way lean r).1, (evsL way lean r).2) := by
  first
    | (rw [evsL]; done)
    | (rw [evsL]; cases resL lean l <;> rfl)
theorem evsL_yield {way : Str} {lean : Bool} {l : Ln} {r : List Ln} (h : ∀ C, resL lean l = .err C → way = Str.ofString "yield") : evsL way lean (l :: r) = (resL lean l :: (evsL way lean r).1, (evsL way lean r).2) := by
  rw [evsL_cons]
  cases q : resL lean l with
  | err C =>
    have hw := h C q
    subst hw
    show (if _ then _ else _) = _
    rw [if_neg (by decide), if_pos rfl]
  | _ => rfl
theorem evsL_ignore {lean : Bool} {l : Ln} {r : List Ln} {C : Addr} (h : resL lean l = .err C) : evsL (Str.ofString "ignore") lean (l :: r) = evsL (Str.ofString "ignore") lean r := by
  rw [evsL_cons, h]
  show (if _ then _ else _) = _
  rw [if_neg (by decide), if_neg (by decide)]
theorem evsL_raise {lean : Bool} {l : Ln} {r : List Ln} {C : Addr} (h : resL lean l = .err C) : evsL (Str.ofString "raise") lean (l :: r) = ([], some C) := by
  rw [evsL_cons, h]
  show (if _ then _ else _) = _
  rw [if_pos rfl]
theorem drop_cons_at {α : Type} {l r : List α} {a : α} {n : Nat} (h : l.drop (l.length - (n + 1)) = a :: r) (hn : n + 1 ≤ l.length) : l[l.length - (n + 1)]? = some a ∧ l.drop (l.length - n) = r := by
  constructor
  · have := congrArg List.head? h
    rw [List.head?_drop] at this
    simpa using this
  · have : l.drop (l.length - n) = (l.drop (l.length - (n + 1))).drop 1 := by
      rw [List.drop_drop]
      congr 1
      omega
    rw [this, h]
    rfl
theorem li_step {prog : Program} {w : World} {base h h1 h2 : Heap} {env : Env} {outer : List Env} {L I Lo R D kd : Addr} {dv : Value} {way bf : Str} {lean : Bool} {l : Ln} {r : List Ln} {cons : List Addr} {i : Nat} {items : Array Value} {o1 o2 o3 : Option Value}
   (ap : Apart L I Lo R D kd outer cons) (gI : base.get? I = none) (hf : env.frame = some L) (li : LI prog w base env outer L I Lo R D kd dv way bf lean cons (l :: r) h) (hit : h.IsListIter I Lo i) (hil : h.IsList Lo items) (hsz' : items.size = i + (l :: r).length)
   (hat : ∀ j l', (l :: r)[j]? = some l' → ∃ t, items[i + j]? = some (.str l'.1 t)) (hit1 : h1.IsListIter I Lo (i + 1)) (hs1 : Heap.SameBut I h h1) (ns2 : h2.Ns L (gmap R kd dv Lo o1 o2 o3)) (hs2 : Heap.SameBut L h1 h2) :
   LI prog w base env outer L I Lo R D kd dv way bf lean cons r h2 ∧ GKeep base L D outer h h2 := by
  have gfr : ∀ b ∈ frs (env :: outer), base.get? b = none := frames_none li.ff
  have efr : frs (env :: outer) = L :: frs outer := by
    show List.filterMap _ _ = _
    rw [List.filterMap_cons, hf]
  rw [efr] at gfr
  have st1 : base.StaysIn h1 := stays_set li.st gI hs1
  have st2 : base.StaysIn h2 := stays_set st1 (gfr L (.head _)) hs2
  have gk1 : GKeep base L D outer h h1 := gkeep_ext li.st li.ff.2.2 (fun q => ap.nA I (by simp) (.tail _ q)) gI (by
    obtain ⟨o, ho, hc, hd⟩ := hit
    exact .inr ⟨o, ho, hc, _, hd⟩) fun b o n e => (hs1.2 b n).trans e
  have gk2 : GKeep base L D outer h1 h2 := gkeep_ext st1 gk1.ff ap.nL (gfr L (.head _)) (.inl rfl) fun b o n e => (hs2.2 b n).trans e
  have ff2 : h2.FunFrames base (env :: outer) := funFrames_set (funFrames_at li.ff (L := I) (by rw [efr]; exact ap.nA I (by simp)) hs1) ns2 hs2
  have nI : ∀ b ∈ [Lo, R, D, kd], b ≠ I := fun b hb q => ap.nI (q ▸ hb)
  have nL2 : ∀ b ∈ [I, Lo, R, D, kd], b ≠ L := fun b hb q => ap.nA b hb (q ▸ .head _)
  have k2 : ∀ b ∈ [Lo, R, D, kd], ∀ o, h.get? b = some o → h2.get? b = some o := fun b hb o e => (hs2.2 b (nL2 b (.tail _ hb))).trans ((hs1.2 b (nI b hb)).trans e)
  refine ⟨⟨⟨_, _, _, ns2⟩, ⟨i + 1, items, ?_, ?_, ?_, ?_⟩, k2 R (by simp) _ li.rd, isRd_at li.rdd (k2 D (by simp)), mapOf_at li.kd (k2 kd (by simp)), st2, ff2, fun b hb => ?_⟩, gk1.trans gk2⟩
  · exact hit1.at fun o e => (hs2.2 I (nL2 I (by simp))).trans e
  · exact hil.at (k2 Lo (by simp))
  · rw [hsz', List.length_cons]; omega
  · intro j l' hj
    obtain ⟨t, q⟩ := hat (j + 1) l' hj
    exact ⟨t, by rw [← q]; congr 1; omega⟩
  · obtain ⟨o, e⟩ := li.ca b hb
    exact ⟨o, (hs2.2 b fun q => ap.nC L (by simp) (q ▸ hb)).trans ((hs1.2 b fun q => ap.nC I (by simp) (q ▸ hb)).trans e)⟩
set_option maxHeartbeats 8000000 in
theorem turns {prog : Program} {w : World} {mean : ExcName → Option Value} {mg mb : Str → Option Value} {loose : List Str}
   {oc : Value} {od : Option Addr} {osl : Array (Option Value)} {name qual : Str} {params : Arguments} {s1 s2 s3 ty yy : Stmt} {tg it : Expr} {p : Pos} {scope : Scope} {dV kV doc pm cdv ct : Value} {an : Option Addr}
   {A : Around} {outer : List Env} {base : Heap} {L I Lo R D kd : Addr} {dv : Value} {way bf : Str} {lean : Bool} {cons : List Addr} {evs : List PRes} {fin : Option Addr}
   (hf : (hd.heap_39 w.params).lookup 270 = some ⟨oc, od, .func (fnOf name qual params [s1, s2, s3, .For tg it [ty, yy] [] p] scope dV kV doc pm an cdv ct), osl⟩)
   (OA : OkA A outer 690) (X : (hd.heap_39 w.params).In base) (T : Top hd.view_39 loose mean mg mb base) (hsz : base.objs.size ≤ L) (gI : base.get? I = none)
   (ap : Apart L I Lo R D kd outer cons) (hkm : (kd == sysModules) = false) (gR : base.get? R = none) (gD : base.get? D = none)
   (hw : way = Str.ofString "raise" ∨ way = Str.ofString "yield" ∨ way = Str.ofString "ignore") {gc : Heap} (hgc : ∀ b, base.get? b = none → b ∉ cons → b ∉ L :: R :: D :: frs outer → gc.get? b = none) {KK : Flow → Sem Fin} (hKK : KK .next = retK .next) :
   ∀ (rest : List Ln), (∀ l ∈ rest, LineOk lean l) → ∀ (n : Nat) (s₀ s : Shared) (pp : Pos), n = (evsL way lean rest).1.length → evs.drop (evs.length - n) = (evsL way lean rest).1 → n ≤ evs.length → fin = (evsL way lean rest).2 →
     LI prog w base (envOf qual scope L 270 cdv) outer L I Lo R D kd dv way bf lean cons rest s.heap → GKeep base L D outer s₀.heap s.heap → Same s₀ s →
     Seg (model prog w) A (endR w.params base L D outer way bf fin) (protY w.params gc base L D outer cons way bf evs) n s₀ (.forLoop tg (.ref I) [ty, yy] [] (envOf qual scope L 270 cdv))
       ((model prog w).den (.forLoop tg (.ref I) [ty, yy] [] (envOf qual scope L 270 cdv)))
       [.ret (backK KK (leaveH (envOf qual scope L 270 cdv)) id id (envOf qual scope L 270 cdv)) none (id false) (id []) (.func [s1, s2, s3, .For tg it [ty, yy] [] p] (envOf qual scope L 270 cdv)) pp []] s := by
  w_top off
  have hf' := hf
  refine' next_fn hf ?kk ?_
  case kk => k_is
  intro e1 e2 e3 e4 e5 e6 e7 e8 e9 e10
  have hTT := @turn_try prog w mean mg mb loose oc od osl name qual params s1 s2 s3 ty yy tg it p scope dV kV doc pm cdv ct an
  generalize hbd : [s1, s2, s3, Stmt.For tg it [ty, yy] [] p] = body9 at *
  clear hbd e2 e3 e4 e6 e7 hf'
  subst e1 e5 e8 e9 e10
  intro rest
  induction rest with
  | nil =>
    intro hok n s₀ s pp hn hdr hle hfin li gk sm
    obtain ⟨i, items, hit, hil, hsz', _⟩ := li.it
    have hx : items[i]? = none := by simp [hsz']
    refine seg_forLoop (wpAny_pyNext_list_end (OkA.loop OA).handled hit hil hx fun h1 hk1 => ?_)
    refine seg_block_nil (seg_done ?_)
    show Seg _ _ _ _ n s₀ _ (KK .next) [] _
    rw [hKK]
    subst hn
    refine seg_end (.ok (.ret .none)) ⟨rfl, ?_, ?_, ?_, ?_⟩
    · exact sm.trans ⟨_, rfl⟩
    · refine gk.trans (gkeep_ext li.st ?_ ?_ gI ?_ hk1)
      · exact li.ff.2.2
      · exact fun q => ap.nA I (by simp) (.tail _ q)
      · obtain ⟨o, ho, hc, hd⟩ := hit
        exact .inr ⟨o, ho, hc, _, hd⟩
    · exact isRd_at li.rdd fun o e => hk1 D o (fun q => ap.nI (by rw [← q]; simp)) e
    · rw [hfin]; rfl
  | cons l r ih =>
    intro hok n s₀ s pp hn hdr hle hfin li gk sm
    obtain ⟨i, items, hit, hil, hsz', hat⟩ := li.it
    obtain ⟨tl, hx⟩ := hat 0 l rfl
    rw [Nat.add_zero] at hx
    refine seg_forLoop (wpAny_pyNext_list_item hit hil hx fun h1 hit1 hs1 => ?_)
    dsimp only
    obtain ⟨o1, o2, o3, hns⟩ := li.ns
    have nLI : L ≠ I := fun q => ap.nA I (by simp) (q ▸ .head _)
    refine wpAny_assign_Name (wpAny_storeName_local rfl (hns.sameBut hs1 nLI) fun h2 hn2 hs2 => ?_)
    have ns2 := ns_congr hn2 gmap_line
    clear hn2
    obtain ⟨li2, gk2⟩ := li_step ap gI rfl li hit hil hsz' hat hit1 hs1 ns2 hs2
    have gk3 := gk.trans gk2
    refine seg_cutR (hTT hf ((OkA.loop OA).mono (by decide)) X T hsz ns2 li2.st li2.ff li2.rd li2.rdd li2.kd hkm gR gD (ap.nA R (by simp)) (ap.nA D (by simp)) ap.nL ap.nRD (hok l (.head _)) hw ?hmsg ?hign ?hrai)
    case hmsg =>
      intro h3 tk3 v o2' hm hy tn ns3
      dsimp only
      have li3 := li2.turned ap tn ⟨_, _, _, ns3⟩
      have gk4 := gk3.trans (gkeep_of_turned tn tn.ff.2.2)
      rw [evsL_yield hy] at hn hdr hfin
      rw [List.length_cons] at hn
      subst hn
      obtain ⟨hat2, hdr2⟩ := drop_cons_at hdr hle
      have sm2 : Same s₀ { s with heap := h3, toks := tk3 } := sm.trans ⟨_, rfl⟩
      refine seg_execs_cons (seg_Expr_Yield rfl rfl rfl ?_)
      refine wpAny_Name (wpAny_loadName_local rfl rfl ns3 (by rfl) ?_) (by decide)
      intro kap hkap
      have hm' := hm.over (base := gc) fun a q => hgc a (by
        cases z : base.get? a with
        | none => rfl
        | some o => rw [li2.st a o z] at q; cases q) (fun z => by
          obtain ⟨o, e⟩ := li2.ca a z
          rw [e] at q; cases q) (fun z => by
        rcases List.mem_cons.mp z with z | z
        · obtain ⟨_, _, _, _, _, _, e, _⟩ := li2.ns
          rw [z, e] at q; cases q
        rcases List.mem_cons.mp z with z | z
        · rw [z, li2.rd] at q; cases q
        rcases List.mem_cons.mp z with z | z
        · obtain ⟨_, _, _, _, _, e⟩ := li2.rdd
          rw [z, e] at q; cases q
        · obtain ⟨_, o, e, _⟩ := li2.ff.2.2.mem z
          rw [e] at q; cases q)
      refine ⟨⟨_, hat2, hm'⟩, sm2, gk4, li3.rdd, (let ⟨_, _, _, o, _, _, e, _⟩ := li3.ns; ⟨o, e⟩), fun s2 hc => hkap .none s2 ?_⟩
      have ih2 := ih (fun l' hl => hok l' (.tail _ hl)) _ s2 s2 pp rfl hdr2 (Nat.le_of_succ_le hle) hfin (li3.asked ap rfl hc) (.refl hc.st hc.ff) ⟨s2.toks, rfl⟩
      exact seg_again rfl ih2
    case hign =>
      intro h3 tk3 C o2' hC hy tn ns3
      subst hy
      have li3 := li2.turned ap tn ⟨_, _, _, ns3⟩
      have gk4 := gk3.trans (gkeep_of_turned tn tn.ff.2.2)
      rw [evsL_ignore hC] at hn hdr hfin
      have sm2 : Same s₀ { s with heap := h3, toks := tk3 } := sm.trans ⟨_, rfl⟩
      have ih2 := ih (fun l' hl => hok l' (.tail _ hl)) _ s₀ { s with heap := h3, toks := tk3 } pp hn hdr hle hfin li3 gk4 sm2
      exact seg_again rfl ih2
    case hrai =>
      intro h3 tk3 C e a0 m hC hy air
      subst hy
      rw [evsL_raise hC] at hn hdr hfin
      have sm2 : Same s₀ { s with heap := h3, toks := tk3 } := sm.trans ⟨_, rfl⟩
      subst hn
      refine seg_turnH (wpAny_noteFrame_againW rfl air.tr (seg_raise (seg_backK_error (cameBack_do rfl air.held fun h4 held4 u4 => ?_))))
      have air4 := air.upH held4 u4
      show Seg _ _ _ _ _ s₀ _ (leaveH _ (.ref e)) [] _
      refine seg_wrap (wpAny_bind (wpAny_noteFrame_againW rfl air4.tr (wpAny_landsW air4.held fun h5 fl5 u5 => ?_)))
      have air5 := air4.upF fl5 u5
      have gfr := frames_none li2.ff
      have tn := air5.turned li2.st gfr rfl
      obtain ⟨d1, d2, d3, d4⟩ := air5.down li2.st gfr rfl
      refine seg_end (.error (.ref e)) ⟨rfl, ?_, ?_, ?_, ?_⟩
      · exact sm.trans ⟨_, rfl⟩
      · exact gk3.trans (gkeep_of_turned tn d3.2.2)
      · exact isRd_at li2.rdd fun o q => tn.keep D o (ap.nA D (by simp)) q
      · rw [hfin]
        exact ⟨e, a0, rfl, d1, d2, d3.2.2, d4⟩
end Mine
end
-- Gn6
section
local macro_rules | `(tactic| walk_at "mine no such step") => `(tactic| skip)
local macro_rules | `(tactic| walk_at "mine no such step") => `(tactic| skip)
local macro_rules | `(tactic| walk_at "mine no such step") => `(tactic| skip)
local macro_rules | `(tactic| walk_at "mine no such step") => `(tactic| skip)
local macro_rules | `(tactic| walk_at "mine no such step") => `(tactic| skip)
local macro_rules | `(tactic| walk_at "mine no such step") => `(tactic| skip)
local macro_rules | `(tactic| walk_at "mine no such step") => `(tactic| skip)
local macro_rules | `(tactic| walk_at "mine no such step") => `(tactic| skip)
local macro_rules | `(tactic| walk_at "mine no such step") => `(tactic| skip)
local macro_rules | `(tactic| walk_at "mine no such step") => `(tactic| skip)
local macro_rules | `(tactic| walk_at "mine no such step") => `(tactic| skip)
local macro_rules | `(tactic| walk_at "mine no such step") => `(tactic| skip)
local macro_rules | `(tactic| walk_at "mine no such step") => `(tactic| skip)
local macro_rules | `(tactic| walk_at "mine no such step") => `(tactic| skip)
local macro_rules | `(tactic| walk_at "mine no such step") => `(tactic| skip)
local macro_rules | `(tactic| walk_at "mine no such step") => `(tactic| skip)
local macro_rules | `(tactic| walk_at "mine no such step") => `(tactic| skip)
local macro_rules | `(tactic| walk_at "mine no such step") => `(tactic| skip)
local macro_rules | `(tactic| walk_at "mine no such step") => `(tactic| skip)
local macro_rules | `(tactic| walk_at "mine no such step") => `(tactic| skip)
local macro_rules | `(tactic| walk_at "mine no such step") => `(tactic| skip)
local macro_rules | `(tactic| walk_at "mine no such step") => `(tactic| skip)
local macro_rules | `(tactic| walk_at "mine no such step") => `(tactic| skip)
local macro_rules | `(tactic| walk_at "mine no such step") => `(tactic| skip)
local macro_rules | `(tactic| walk_at "mine no such step") => `(tactic| skip)
local macro_rules | `(tactic| walk_at "mine no such step") => `(tactic| skip)
local macro_rules | `(tactic| walk_at "mine no such step") => `(tactic| skip)
local macro_rules | `(tactic| walk_at "mine no such step") => `(tactic| skip)
local macro_rules | `(tactic| walk_at "mine no such step") => `(tactic| skip)
local macro_rules | `(tactic| walk_at "mine no such step") => `(tactic| skip)
local macro_rules | `(tactic| walk_at "mine no such step") => `(tactic| skip)
local macro_rules | `(tactic| walk_at "mine no such step") => `(tactic| skip)
local macro_rules | `(tactic| walk_at "mine no such step") => `(tactic| skip)
local macro_rules | `(tactic| walk_at "mine no such step") => `(tactic| skip)
local macro_rules | `(tactic| walk_at "mine no such step") => `(tactic| skip)
local macro_rules | `(tactic| walk_at "mine no such step") => `(tactic| skip)
local macro_rules | `(tactic| walk_at "mine no such step") => `(tactic| skip)
local macro_rules | `(tactic| walk_at "mine no such step") => `(tactic| skip)
local macro_rules | `(tactic| walk_at "mine no such step") => `(tactic| skip)
local macro_rules | `(tactic| walk_at "mine no such step") => `(tactic| skip)
open PySem PySem.W PyProof.Rows
set_option maxRecDepth 100000
set_option linter.all false
namespace Mine
theorem gmap_start {R kd Lo : Addr} {dv : Value} (y : Str) : (if y = Str.ofString "lines" then some (Value.ref Lo) else List.lookup y [(Str.ofString "data", dv), (Str.ofString "kinds", .ref kd), (Str.ofString "self", .ref R)]) = gmap R kd dv Lo none none none y := by
  unfold gmap
  by_cases q1 : y = Str.ofString "msg"
  · subst q1; rw [if_neg (by decide), if_pos rfl]; rfl
  by_cases q2 : y = Str.ofString "e"
  · subst q2; rw [if_neg (by decide), if_neg (by decide), if_pos rfl]; rfl
  by_cases q3 : y = Str.ofString "line"
  · subst q3; rw [if_neg (by decide), if_neg (by decide), if_neg (by decide), if_pos rfl]; rfl
  rw [if_neg q1, if_neg q2, if_neg q3]
theorem funFrames_k {h h' base : Heap} {l : List Env} (f : h.FunFrames base l) (k : ∀ b ∈ frs l, ∀ o, h.get? b = some o → h'.get? b = some o) : h'.FunFrames base l := by
  induction l with
  | nil => trivial
  | cons env rest ih =>
    obtain ⟨a, ⟨b, o, c1, c2, c3, c4⟩, d⟩ := f
    refine ⟨a, ⟨b, o, c1, c2, k b ?_ _ c3, c4⟩, ih d fun b hb => k b ?_⟩
    · show b ∈ List.filterMap _ _
      rw [List.filterMap_cons, c1]; exact .head _
    · show b ∈ List.filterMap _ _
      rw [List.filterMap_cons, c1]; exact .tail _ hb
theorem last_snoc (l : List Value) (x : Value) : kl_last (l ++ [x]).toArray.toList = some (l, x) := by
  show kl_last (l ++ [x]) = _
  induction l with
  | nil => rfl
  | cons y r ih => rw [List.cons_append, kl_last, ih]
local macro_rules | `(tactic| walk_at "call builtin:list.pop") => `(tactic| (k_here; k_dflt (refine' kl_pop ?F ?N ?e ?U ?z ?_; (case F => k_asm); (case N => k_asm); (case U => exact Upd.head (by assumption)); (case e => exact last_snoc _ _); (case z => assumption); k_whole); intro h' F' N'))
local macro_rules | `(tactic| walk_at "setAttr ref") => `(tactic| (k_here; k_dflt (refine' set_dict ?k1 ?k2 ?k3 ?k4 ?k5 ?k6 ?k7 ?k8 ?k9 ?k10 ?k11 ?k12 ?k13 ?_; (case k1 => k_asm); (case k2 => k_asm); (case k3 => k_asm); (case k4 => k_inst); (case k5 => exact rfl); (case k6 => k_is); (case k7 => k_is); (case k8 => k_is); (case k9 => k_is); (case k10 => k_get); (case k11 => k_put); (case k12 => exact Upd.tail (by assumption) (Upd.head (by assumption))); (case k13 => exact Nat.le_of_ble_eq_true rfl); k_whole; intro h' F' N'; (try k_sweep))))
theorem last_of_map {l : List (Str × Tok)} {xs : List Str} {x : Str} (h : l.map (·.1) = xs ++ [x]) : ∃ l0 t, l = l0 ++ [(x, t)] ∧ l0.map (·.1) = xs := by
  induction xs generalizing l with
  | nil =>
    cases l with
    | nil => cases h
    | cons a r =>
      obtain ⟨a, t⟩ := a
      rw [List.map_cons, List.nil_append, List.cons.injEq] at h
      obtain ⟨rfl, h2⟩ := h
      obtain rfl := List.map_eq_nil_iff.mp h2
      exact ⟨[], t, rfl, rfl⟩
  | cons y ys ih =>
    cases l with
    | nil => cases h
    | cons a r =>
      rw [List.map_cons, List.cons_append, List.cons.injEq] at h
      obtain ⟨l0, t, rfl, h2⟩ := ih h.2
      exact ⟨a :: l0, t, rfl, by rw [List.map_cons, h.1, h2]⟩
theorem strv_snoc (l : List (Str × Tok)) (x : Str) (t : Tok) : strValues (l ++ [(x, t)]) = strValues l ++ [.str x t] := by
  unfold strValues
  rw [List.map_append]
  rfl
theorem seg_cutO {prog : Program} {w : World} {A : Around} {R : GenEnd} {Y : Protocol} {n n₀ : Nat} {s₀ : Shared} {s : Shared} {env : Env} {body : List Stmt} {outer : List Env}
  {K : Flow → Sem Fin} {H : Value → Sem Fin} {gd : Bool → Bool} {lv : List Value → List Value} {st : Stmt} {rest : List Stmt} (OA : OkA A outer n₀) (P : Shared → Prop)
    (h : ∀ A3, OkA A3 (env :: outer) (n₀ + 1) → wpAny (model prog w) A3 (exec st env) (Nxt P) (fun _ _ => False) s)
    (h2 : ∀ s', P s' → Seg (model prog w) A R Y n s₀ (.func body env) ((execs rest env).wrap K H gd lv) [] s') : Seg (model prog w) A R Y n s₀ (.func body env) ((execs (st :: rest) env).wrap K H gd lv) [] s :=
  seg_cut P (h _ OA.func) h2
set_option maxHeartbeats 8000000 in
theorem next_spec {prog : Program} {w : World} {mean : ExcName → Option Value} {mg mb : Str → Option Value} {loose : List Str}
   {A : Around} {outer : List Env} {base : Heap} {s : Shared} {Rr : Result → Shared → Prop} {R D kd : Addr} {way buf bf piece : Str} {tp : Tok} {lean : Bool} {cons : List Addr} {lns : List Ln} {gc : Addr → Heap} (hgc : ∀ L b, base.get? b = none → b ∉ cons → b ∉ L :: R :: D :: frs outer → (gc L).get? b = none)
   (X : (hd.heap_39 w.params).In base) (T : Top hd.view_39 loose mean mg mb base) (hb : base.StaysIn s.heap) (hsz : base.objs.size ≤ s.heap.objs.size) (hdp : A.depth < 800)
   (hR : s.heap.get? R = some (instObj 273 D)) (hD : IsRd w.params way buf s.heap D) (hkd : s.heap.MapOf (strKind prog w) kd (kindsF lean)) (hkm : (kd == sysModules) = false)
   (gR : base.get? R = none) (gD : base.get? D = none) (nRD : R ≠ D) (nkD : kd ≠ D) (nf : ∀ b ∈ [R, D, kd], b ∉ frs outer) (nc : ∀ b ∈ [R, D, kd], b ∉ cons) (hc : ∀ b ∈ cons, ∃ o, s.heap.get? b = some o)
   (ff : s.heap.FunFrames base outer) (hw : way = Str.ofString "raise" ∨ way = Str.ofString "yield" ∨ way = Str.ofString "ignore")
   (hbl : buf.length ≤ 2048) (hpl : piece.length ≤ 2048) (hsp : Txt.split (buf ++ piece) (Str.ofString "\n") = lns.map (·.1) ++ [bf]) (hok : ∀ l ∈ lns, LineOk lean l)
   (hret : ∀ L G h' gs tk, s.heap.StaysIn h' → s.heap.get? L = none → s.heap.get? G = none → L ≠ G → gs.bare = true → h'.IsGen G s.gens.size → (∀ b o, h'.get? b = some o → s.heap.get? b = some o ∨ b = L ∨ b = G) →
     (∀ A s2, OkA A outer 690 → s2.heap = h' → gs.Goes (model prog w) A (endR w.params base L D outer way bf (evsL way lean lns).2) (protY w.params (gc L) base L D outer cons way bf (evsL way lean lns).1) (evsL way lean lns).1.length (.send .none) s2) →
     Rr (.ok (.ret (.ref G))) { s with heap := h', gens := s.gens.push gs, toks := tk }) :
   codeAny (model prog w) A (.call (.ref 270) ⟨[.ref R, .ref kd, .str piece tp], []⟩) Rr s := by
  w_top off
  have hroom : A.depth < recursionLimit := Nat.lt_of_lt_of_le hdp (by decide)
  have Xs := X.keeps hb
  k_dflt (refine' enterY hb X ?k2 ?k6 ?k7 ?k8 ?k9 ?kB ?_ ?c2 ?c3 ?c4 ?c5; (case k2 => exact Top.nolimit (by assumption)); (case k6 => k_is); (case k7 => k_is); (case k8 => assumption); (case k9 => first | exact BindsTo.of_eq rfl | exact binds_K (by k_in) rfl (by k_is) rfl rfl rfl); (case c5 => decide); (case kB => exact locs rfl); (case c2 => exact rfl); (case c3 => exact rfl); (case c4 => exact rfl); k_whole)
  intro L G h1 t1 t2 tk hL hLG hn1 k1 hG hall
  have sL : s.heap.get? L = none := Heap.get?_none_of_le hL
  have sG : s.heap.get? G = none := Heap.get?_none_of_le (Nat.le_of_lt (Nat.lt_of_le_of_lt hL hLG))
  refine hret L G h1 _ tk k1 sL sG (Nat.ne_of_lt hLG) rfl ⟨_, _, _, hG, rfl, rfl, rfl⟩ hall ?_
  intro A2 s2 OA e2
  refine ⟨rfl, ?_⟩
  subst e2
  replace hn1 : s2.heap.Ns L (fun y => List.lookup y [(Str.ofString "data", .str piece tp), (Str.ofString "kinds", .ref kd), (Str.ofString "self", .ref R)]) := hn1
  refine seg_func ?_
  have hb2 : base.StaysIn s2.heap := fun b o q => k1 b o (hb b o q)
  have szL : base.objs.size ≤ L := Nat.le_trans hsz hL
  obtain ⟨kk1, tt1, kk2, kk3, tt3, hD⟩ := hD
  have hD2 := k1 D _ hD
  have hR2 := k1 R _ hR
  have nDL : D ≠ L := fun q => by rw [q, sL] at hD; cases hD
  have nRL : R ≠ L := fun q => by rw [q, sL] at hR; cases hR
  have F1 : Fr base L s2.heap _ := ⟨hn1, hb2, szL⟩
  have N1 : News base L s2.heap _ := rest_two hD2 hR2 gD gR nDL nRL
  have sp1 := rest_split (base := base) (L := L) hD2 hR2
  have ne1 : ∀ q ∈ restOf base s2.heap [L, D, R], q.1 ≠ D := fun q hq e => rest_ne q hq (by rw [e]; simp)
  generalize restOf base s2.heap [L, D, R] = others at N1 sp1 ne1
  refine seg_cutO OA (fun s' => ∃ tk, s' = { s2 with toks := tk }) ?_ ?_
  · intro A3 OB
    obtain ⟨hd0, dp, fr0, gd, un⟩ := A3
    obtain ⟨a1, a2, a3, a4⟩ := OB
    dsimp only at a1 a2 a3 a4
    subst a1 a2
    clear hret
    k_steps
    exact ⟨rfl, _, rfl⟩
  rintro s' ⟨tk1, rfl⟩
  refine seg_cutO OA (fun s' => ∃ h' tk l, s' = { s2 with heap := h', toks := tk } ∧ Fr base L h' (fun y => if y = Str.ofString "lines" then some (.ref s2.heap.objs.size) else List.lookup y [(Str.ofString "data", .str piece tp), (Str.ofString "kinds", .ref kd), (Str.ofString "self", .ref R)]) ∧ News base L h' ((s2.heap.objs.size, W.listOf (strValues l).toArray 0) :: (D, dictOf [ent w.params (Str.ofString "errors") kk1 (.str way tt1), ent w.params (Str.ofString "stream") kk2 .none, ent w.params (Str.ofString "buffer") kk3 (.str buf tt3)] 3) :: (R, instObj 273 D) :: others) ∧ l.map (·.1) = Txt.split (buf ++ piece) (Str.ofString "\n")) ?_ ?_
  · intro A3 OB
    obtain ⟨hd0, dp, fr0, gd, un⟩ := A3
    obtain ⟨a1, a2, a3, a4⟩ := OB
    dsimp only at a1 a2 a3 a4
    subst a1 a2
    clear hret
    k_steps
    rename Fr _ _ _ _ => F9
    rename News _ _ _ _ => N9
    exact ⟨rfl, _, _, _, rfl, F9, N9, by assumption⟩
  rintro s' ⟨h3, tk3, l, rfl, F3, N3, hl⟩
  have fsp := (fact_split (buf ++ piece) (Str.ofString "\n")).2
  rw [← hl, List.length_map] at fsp
  rw [hsp] at hl
  obtain ⟨l0, tb, rfl, hl0⟩ := last_of_map hl
  rw [strv_snoc] at N3
  have hlen : (strValues l0 ++ [Value.str bf tb]).length ≤ sizeLine := by
    rw [List.length_append, List.length_cons, List.length_nil]
    rw [List.length_append, List.length_cons, List.length_nil, Str.length_append] at fsp
    unfold strValues
    rw [List.length_map, sizeLine_eq]
    omega
  generalize hLo : s2.heap.objs.size = Lo at F3 N3
  have sLo : s2.heap.get? Lo = none := Heap.get?_none_of_le (Nat.le_of_eq hLo)
  have nLoD : Lo ≠ D := fun q => by rw [q, hD2] at sLo; cases sLo
  have nLoR : Lo ≠ R := fun q => by rw [q, hR2] at sLo; cases sLo
  have neD : ∀ q ∈ ((R, instObj 273 D) : Addr × Obj) :: others, q.1 ≠ D := fun q hq => by
    rcases List.mem_cons.mp hq with rfl | hq
    · exact nRD
    · exact ne1 q hq
  have neLo : ∀ q ∈ ((D, dictOf [ent w.params (Str.ofString "errors") kk1 (.str way tt1), ent w.params (Str.ofString "stream") kk2 .none, ent w.params (Str.ofString "buffer") kk3 (.str buf tt3)] 3) : Addr × Obj) :: (R, instObj 273 D) :: others, q.1 ≠ Lo := fun q hq e => by
    have := (N1 q hq).1
    rw [e, sLo] at this; cases this
  have spD : ∀ q ∈ restOf base s2.heap [L, D], q ∈ ((R, instObj 273 D) : Addr × Obj) :: others := fun ⟨a, o⟩ hq => by
    obtain ⟨x, y, z⟩ := mem_rest.mp hq
    rcases List.mem_cons.mp (sp1 (a, o) (mem_rest.mpr ⟨fun q => x (by rw [List.mem_singleton.mp q]; simp), y, z⟩)) with q | q
    · cases q; exact absurd (by simp) x
    · exact q
  clear sp1
  refine seg_cutO OA (fun s' => ∃ h' tk kk4 tt4, s' = { s2 with heap := h', toks := tk } ∧ Fr base L h' (fun y => if y = Str.ofString "lines" then some (.ref Lo) else List.lookup y [(Str.ofString "data", .str piece tp), (Str.ofString "kinds", .ref kd), (Str.ofString "self", .ref R)]) ∧ News base L h' ((Lo, W.listOf (strValues l0).toArray 1) :: (D, dictOf [ent w.params (Str.ofString "errors") kk1 (.str way tt1), ent w.params (Str.ofString "stream") kk2 .none, ent w.params (Str.ofString "buffer") kk4 (.str bf tt4)] 3) :: (R, instObj 273 D) :: others)) ?_ ?_
  · intro A3 OB
    obtain ⟨hd0, dp, fr0, gd, un⟩ := A3
    obtain ⟨a1, a2, a3, a4⟩ := OB
    dsimp only at a1 a2 a3 a4
    subst a1 a2
    clear hret F1 N1
    k_steps
    rename Fr _ _ _ _ => F9
    rename News _ _ _ _ => N9
    exact ⟨rfl, _, _, _, _, rfl, F9, N9⟩
  rintro s' ⟨h4, tk4, kk4, tt4, rfl, F4, N4⟩
  have kb4 : KeepBut [L, D] s2.heap h4 := keepBut_of F4 N4 (fun q hq => .tail _ (.tail _ (spD q hq))) hb2
  have fr4 : ∀ b ∈ frs outer, ∀ o, s2.heap.get? b = some o → h4.get? b = some o := fun b hb' o e => kb4 b o (fun q => by
    rcases List.mem_cons.mp q with q | q
    · obtain ⟨_, o', ho', _⟩ := ff.mem hb'
      rw [q, sL] at ho'; cases ho'
    · rw [List.mem_singleton.mp q] at hb'
      exact nf D (by simp) hb') e
  refine seg_execs_cons (seg_For ?_)
  refine wpAny_Name (wpAny_loadName_local rfl rfl F4.ns (by rfl) ?_) (by decide)
  have il4 : h4.IsList Lo (strValues l0).toArray := ⟨_, (N4 (Lo, _) (.head _)).1, rfl, _, rfl⟩
  refine wpAny_pyIter_list il4 ?_
  intro pp
  dsimp only
  have sI : h4.get? h4.objs.size = none := Heap.get?_none_of_le (Nat.le_refl _)
  have hI5 : (h4.push { cls := .type "list_iterator", data := .fields #[.ref Lo, .int 0 0] }).get? h4.objs.size = some { cls := .type "list_iterator", data := .fields #[.ref Lo, .int 0 0] } := Heap.get?_push_size _ rfl
  have k5 : h4.StaysIn (h4.push { cls := .type "list_iterator", data := .fields #[.ref Lo, .int 0 0] }) := fun b o e => Heap.get?_push_of_some _ e
  generalize h4.push { cls := .type "list_iterator", data := .fields #[.ref Lo, .int 0 0] } = h5 at hI5 k5
  generalize h4.objs.size = I at sI hI5
  have gL : base.get? L = none := by
    cases q : base.get? L with
    | none => rfl
    | some o => rw [hb L o q] at sL; cases sL
  have gI : base.get? I = none := by
    cases q : base.get? I with
    | none => rfl
    | some o => rw [F4.keep I o q] at sI; cases sI
  have kb5 : KeepBut [L, D] s2.heap h5 := fun b o n e => k5 b o (kb4 b o n e)
  have fr5 : ∀ b ∈ frs outer, ∀ o, s2.heap.get? b = some o → h5.get? b = some o := fun b hb' o e => k5 b o (fr4 b hb' o e)
  obtain ⟨okd, eskd, epkd, hkdo, hkdr⟩ := hkd
  have nkL : kd ≠ L := fun q => by rw [q, sL] at hkdo; cases hkdo
  have kd5 : h5.get? kd = some okd := kb5 kd okd (by simp [nkL, nkD]) (k1 kd _ hkdo)
  have R5 : h5.get? R = some (instObj 273 D) := kb5 R _ (by simp [nRL, nRD]) hR2
  have D5 := k5 D _ (N4 (D, _) (.tail _ (.head _))).1
  have frA : ∀ b ∈ frs outer, ∃ o, s.heap.get? b = some o := fun b hb' => (ff.mem hb').2.imp fun o x => x.1
  have frE : ∀ b ∈ frs outer, ∃ o, h4.get? b = some o := fun b hb' => (frA b hb').imp fun o x => fr4 b hb' o (k1 b o x)
  have L4 : ∃ o, h4.get? L = some o := by
    obtain ⟨o, es, ep, q, _⟩ := F4.ns
    exact ⟨o, q⟩
  have nIx : ∀ b, (∃ o, h4.get? b = some o) → I ≠ b := fun b ⟨o, e⟩ q => by rw [q, e] at sI; cases sI
  have sLo0 : s.heap.get? Lo = none := by
    cases q : s.heap.get? Lo with
    | none => rfl
    | some o => rw [k1 Lo o q] at sLo; cases sLo
  have nLx : ∀ b, (∃ o, s.heap.get? b = some o) → L ≠ b := fun b ⟨o, e⟩ q => by rw [q, e] at sL; cases sL
  have nLox : ∀ b, (∃ o, s.heap.get? b = some o) → Lo ≠ b := fun b ⟨o, e⟩ q => by rw [q, e] at sLo0; cases sLo0
  have nLoL : Lo ≠ L := fun q => by
    obtain ⟨o, es, ep, e, _⟩ := hn1
    rw [q, e] at sLo; cases sLo
  have nIc : ∀ b, (∃ o, s.heap.get? b = some o) → b ≠ L → b ≠ D → I ≠ b := fun b ⟨o, e⟩ n1 n2 => nIx b ⟨o, kb4 b o (by simp [n1, n2]) (k1 b o e)⟩
  have ap : Apart L I Lo R D kd outer cons := by
    refine ⟨fun q => nLx L (frA L q) rfl, ?_, ?_, nRD, ?_⟩
    · intro b hb' q
      simp only [List.mem_cons, List.not_mem_nil, or_false] at hb'
      rcases hb' with rfl | rfl | rfl | rfl | rfl
      · rcases List.mem_cons.mp q with q | q
        · exact nIx L L4 q
        · exact nIx _ (frE _ q) rfl
      · rcases List.mem_cons.mp q with q | q
        · exact nLoL q
        · exact nLox _ (frA _ q) rfl
      · rcases List.mem_cons.mp q with q | q
        · exact nRL q
        · exact nf _ (by simp) q
      · rcases List.mem_cons.mp q with q | q
        · exact nDL q
        · exact nf _ (by simp) q
      · rcases List.mem_cons.mp q with q | q
        · exact nkL q
        · exact nf _ (by simp) q
    · intro q
      simp only [List.mem_cons, List.not_mem_nil, or_false] at q
      rcases q with q | q | q | q
      · exact nIx Lo ⟨_, (N4 (Lo, _) (.head _)).1⟩ q
      · exact nIx R ⟨_, kb4 R _ (by simp [nRL, nRD]) hR2⟩ q
      · exact nIx D ⟨_, (N4 (D, _) (.tail _ (.head _))).1⟩ q
      · exact nIx kd ⟨_, kb4 kd okd (by simp [nkL, nkD]) (k1 kd _ hkdo)⟩ q
    · intro b hb' q
      simp only [List.mem_cons, List.not_mem_nil, or_false] at hb'
      rcases hb' with rfl | rfl | rfl | rfl | rfl | rfl
      · exact nLx _ (hc _ q) rfl
      · exact nIc _ (hc _ q) (fun z => nLx _ (hc _ q) z.symm) (fun z => nc D (by simp) (z ▸ q)) rfl
      · exact nLox _ (hc _ q) rfl
      · exact nc _ (by simp) q
      · exact nc _ (by simp) q
      · exact nc _ (by simp) q
  have ns5 := ns_congr (F4.ns.keeps k5) (gmap_start (R := R) (kd := kd) (Lo := Lo) (dv := .str piece tp))
  have st5 : base.StaysIn h5 := fun b o e => k5 b o (F4.keep b o e)
  have ff5 : h5.FunFrames base outer := funFrames_k ff fun b hb' o e => fr5 b hb' o (k1 b o e)
  have hcnt : (strValues l0).toArray.size = 0 + lns.length := by
    have := congrArg List.length hl0
    rw [List.length_map, List.length_map] at this
    unfold strValues
    simp [this]
  have hats : ∀ (j : Nat) (l : Ln), lns[j]? = some l → ∃ t, (strValues l0).toArray[0 + j]? = some (.str l.1 t) := fun j l hj => by
    have e1 : (l0.map (·.1))[j]? = some l.1 := by rw [hl0, List.getElem?_map, hj]; rfl
    rw [List.getElem?_map] at e1
    cases q : l0[j]? with
    | none => rw [q] at e1; cases e1
    | some x =>
      rw [q] at e1
      refine ⟨x.2, ?_⟩
      rw [Nat.zero_add, List.getElem?_toArray]
      unfold strValues
      rw [List.getElem?_map, q]
      show some (Value.str x.1 x.2) = _
      rw [show x.1 = l.1 from Option.some.inj e1]
  clear hret
  refine' turns ?hf OA X T szL gI ap hkm gR gD hw (hgc L) ?hKK lns hok _ s2 _ pp rfl ?hd (Nat.le_refl _) rfl ?hli ?hgk ?hsm
  case hsm => exact ⟨_, rfl⟩
  case hf => k_is
  case hKK => rfl
  case hd => rw [Nat.sub_self]; rfl
  case hli => exact ⟨⟨none, none, none, ns5⟩, ⟨0, _, ⟨_, hI5, rfl, rfl⟩, il4.at fun o e => k5 Lo o e, hcnt, hats⟩, R5, ⟨_, _, _, _, _, D5⟩, ⟨okd, eskd, epkd, kd5, hkdr⟩, st5, ⟨(fun (q : ScopeKind.function = ScopeKind.module) => nomatch q), ⟨L, by
    obtain ⟨o, ho, hd'⟩ := ns_notFields ns5
    exact ⟨o, rfl, gL, ho, hd'⟩⟩, ff5⟩, fun b hb' => by
      obtain ⟨o, e⟩ := hc b hb'
      by_cases q : b ∈ [L, D]
      · rcases List.mem_cons.mp q with q | q
        · exact absurd q.symm (nLx b ⟨o, e⟩)
        · exact absurd (List.mem_singleton.mp q ▸ hb') (nc D (by simp))
      · exact ⟨o, kb5 b o q (k1 b o e)⟩⟩
  case hgk => exact ⟨fun b o n _ e => kb5 b o (fun q => n (by
      rcases List.mem_cons.mp q with q | q
      · exact q ▸ .head _
      · exact (List.mem_singleton.mp q) ▸ .tail _ (.head _))) e, st5, ff5, fun b hb' m ⟨o, es, ep, q, r⟩ => ⟨o, es, ep, fr5 b hb' o q, r⟩⟩
end Mine
end
-- Pn
section
open PySem PySem.W PyProof.Rows
set_option linter.all false
namespace Mine
/-- an exception object of an own class that is no StopIteration -/
def OwnExc (h : Heap) (e C : Addr) : Prop := ∃ nm q N bs bm hdct sn sub ab col dd k0 k1 k2 k3 k5 newId oe,
  h.get? C = some (excClassObj nm q C N bs bm hdct sn sub ab col dd k0 k1 k2 k3 k5 newId) ∧ h.get? e = some oe ∧ oe.cls = .ref C ∧ (Value.ref C :: bm).contains (.type "StopIteration") = false
section
variable {prog : Program} {w : World} {A : Around} {E : Value → Shared → Prop} {s : Shared}
theorem isInstance_own {e C : Addr} {Q : Bool → Shared → Prop} (h : OwnExc s.heap e C) (hq : Q false s) : wpAny (model prog w) A (isInstance (.ref e) (.type "StopIteration")) Q E s := by
  obtain ⟨nm, q, N, bs, bm, hdct, sn, sub, ab, col, dd, k0, k1, k2, k3, k5, newId, oe, hC, he, hc, hs⟩ := h
  obtain ⟨hp, g, d, tk, os⟩ := s
  unfold isInstance
  repeat (first | (with_reducible refine wpAny_loadPart_at he ?_; rw [hc]) | with_reducible refine wpAny_loadPart_at hC ?_ | (with_reducible refine wpAny_isSubtype_exc hC ?_; rw [hs]) | wp_step)
  exact hq
theorem genLeft_own {α : Type} {a e C g : Addr} {Q : α → Shared → Prop} (hg : s.heap.IsGen a g) (h : OwnExc s.heap e C) (hE : E (.ref e) s) : wpAny (model prog w) A (Builtin.Generator.genLeft (.ref a) (.ref e) : Sem α) Q E s := by
  obtain ⟨o, nm, qn, ho, hc, hd, hs⟩ := hg
  unfold Builtin.Generator.genLeft Builtin.Generator.madeByALambda
  refine wpAny_bind (wpAny_bind (wpAny_load ho (wpAny_pure ?_)))
  refine wpAny_bind (isInstance_own h ?_)
  rw [Bool.and_false]
  show wpAny _ _ (Builtin.Generator.genEscaped (.ref e)) _ _ _
  unfold Builtin.Generator.genEscaped
  refine wpAny_bind (isInstance_own h ?_)
  first | exact wpAny_throw hE | exact wpAny_bind (wpAny_throw hE)
theorem pyNext_own {a : Addr} {g n : Nat} {gs : GenState} {Rr : GenEnd} {Y : Protocol} {Q : Option Value → Shared → Prop} (hh : A.handled = none)
    (hl : s.heap.NoLimit) (hroom : A.depth < recursionLimit)
    (hg : s.heap.IsGen a g) (hgs : s.gens[g]? = some gs)
    (hgo : gs.Goes (model prog w) A.in1 Rr Y n (.send .none) (s.setGen g .running))
    (hY : ∀ v s₁ gs', gs'.bare = true → Y (n - 1) (s.setGen g .running) v s₁ (fun r' s'' => match n with
        | 0 => False
        | m + 1 => gs'.Goes (model prog w) A.in1 Rr Y m r' s'') → Q (some v) (s₁.setGen g gs'))
    (hR : ∀ r s₁, Rr n (s.setGen g .running) r s₁ → (r = .ok (.ret .none) ∧ ∀ h', s₁.heap.StaysIn h' → Q none { s₁.setGen g .finished with heap := h' }) ∨
      ∃ e C, r = .error (.ref e) ∧ OwnExc s₁.heap e C ∧ s₁.heap.IsGen a g ∧ E (.ref e) (s₁.setGen g .finished)) :
    wpAny (model prog w) A (pyNext (.ref a)) Q E s := by
  unfold pyNext
  refine wpAny_bind (wpAny_attempt (wpAny_callSpecial?_slot (name := Str.ofString "__next__") hg.typeIs slot_gen_next
    (wpAny_call_entry slot_gen_next hg.typeIs entry_gen_next ?_ (args_gen_next _))))
  show wpAny _ A.in1 (Builtin.Generator.genWake (.ref a) (.send .none)) _ _ s
  unfold Builtin.Generator.genWake
  refine wpAny_bind (wpAny_holding (wpAny_genNumber hg (wpAny_bind (wpAny_genState hgs ?_))))
  cases gs with
  | running => exact hgo.elim
  | finished => exact hgo.elim
  | _ =>
    refine wpAny_bind (wpAny_roomToWake hl hroom ?_)
    show wpAny _ A.in1 (.resume g (.send .none) [] _) _ _ s
    refine wpAny_resumeQ hgs hgo (fun x s₁ hx => ?_) (fun v s₁ gs' hb hv => ?_)
    · rcases hR x s₁ hx with ⟨rfl, hp⟩ | ⟨e, C, rfl, ho, hg1, hE⟩
      · show wpAny _ A.in1 (newExc (.type "StopIteration") [] >>= _) _ _ _
        refine wpAny_bind ?_
        simp only [newExc, newTuple]
        refine wpAny_bind (wpAny_newObj_type ?_ (by size_fits))
        refine wpAny_bind (m := firstArgMember _ _) (wpAny_of_eq (a := Value.none) (by first | rfl | (simp only [firstArgMember]; rfl)) ?_)
        refine wpAny_newObj_type ?_ (by size_fits)
        simp only [raiseNew]
        refine wpAny_bind (wpAny_bind (wpAny_handled ?_))
        first | rw [show A.in1.handled = none from hh] | rw [hh]
        refine wpAny_throw ?_
        refine wpAny_bind (wpAny_isInstance (T := "StopIteration") (b := true) ⟨_, Heap.get?_push_size _ rfl, rfl⟩ isSubtype_stop ?_)
        exact wpAny_pure (hp _ fun b o hb => Heap.get?_push_of_some _ (Heap.get?_push_of_some _ hb))
      · show wpAny _ A.in1 (Builtin.Generator.genLeft (.ref a) (.ref e)) _ _ _
        refine genLeft_own (s := s₁.setGen g .finished) hg1 ho ?_
        refine wpAny_bind (isInstance_own ho ?_)
        exact wpAny_throw hE
    · exact wpAny_pure ⟨v, rfl, wpAny_pure (hY v s₁ gs' hb hv)⟩
end
end Mine
end
-- Isn
section
local macro_rules | `(tactic| walk_at "mine no such step") => `(tactic| skip)
local macro_rules | `(tactic| walk_at "mine no such step") => `(tactic| skip)
local macro_rules | `(tactic| walk_at "mine no such step") => `(tactic| skip)
local macro_rules | `(tactic| walk_at "mine no such step") => `(tactic| skip)
local macro_rules | `(tactic| walk_at "mine no such step") => `(tactic| skip)
local macro_rules | `(tactic| walk_at "mine no such step") => `(tactic| skip)
local macro_rules | `(tactic| walk_at "mine no such step") => `(tactic| skip)
local macro_rules | `(tactic| walk_at "mine no such step") => `(tactic| skip)
local macro_rules | `(tactic| walk_at "mine no such step") => `(tactic| skip)
local macro_rules | `(tactic| walk_at "mine no such step") => `(tactic| skip)
local macro_rules | `(tactic| walk_at "mine no such step") => `(tactic| skip)
local macro_rules | `(tactic| walk_at "mine no such step") => `(tactic| skip)
local macro_rules | `(tactic| walk_at "mine no such step") => `(tactic| skip)
local macro_rules | `(tactic| walk_at "mine no such step") => `(tactic| skip)
local macro_rules | `(tactic| walk_at "mine no such step") => `(tactic| skip)
local macro_rules | `(tactic| walk_at "mine no such step") => `(tactic| skip)
local macro_rules | `(tactic| walk_at "mine no such step") => `(tactic| skip)
local macro_rules | `(tactic| walk_at "mine no such step") => `(tactic| skip)
local macro_rules | `(tactic| walk_at "mine no such step") => `(tactic| skip)
local macro_rules | `(tactic| walk_at "mine no such step") => `(tactic| skip)
local macro_rules | `(tactic| walk_at "mine no such step") => `(tactic| skip)
local macro_rules | `(tactic| walk_at "mine no such step") => `(tactic| skip)
local macro_rules | `(tactic| walk_at "mine no such step") => `(tactic| skip)
local macro_rules | `(tactic| walk_at "mine no such step") => `(tactic| skip)
local macro_rules | `(tactic| walk_at "mine no such step") => `(tactic| skip)
local macro_rules | `(tactic| walk_at "mine no such step") => `(tactic| skip)
local macro_rules | `(tactic| walk_at "mine no such step") => `(tactic| skip)
local macro_rules | `(tactic| walk_at "mine no such step") => `(tactic| skip)
local macro_rules | `(tactic| walk_at "mine no such step") => `(tactic| skip)
local macro_rules | `(tactic| walk_at "mine no such step") => `(tactic| skip)
local macro_rules | `(tactic| walk_at "mine no such step") => `(tactic| skip)
local macro_rules | `(tactic| walk_at "mine no such step") => `(tactic| skip)
local macro_rules | `(tactic| walk_at "mine no such step") => `(tactic| skip)
local macro_rules | `(tactic| walk_at "mine no such step") => `(tactic| skip)
local macro_rules | `(tactic| walk_at "mine no such step") => `(tactic| skip)
local macro_rules | `(tactic| walk_at "mine no such step") => `(tactic| skip)
local macro_rules | `(tactic| walk_at "mine no such step") => `(tactic| skip)
local macro_rules | `(tactic| walk_at "mine no such step") => `(tactic| skip)
local macro_rules | `(tactic| walk_at "mine no such step") => `(tactic| skip)
local macro_rules | `(tactic| walk_at "mine no such step") => `(tactic| skip)
set_option maxRecDepth 100000
set_option linter.all false
open PySem PySem.W PySem.Calls PyProof.Rows Builtin Builtin.ObjectAttr Builtin.Getset_descriptor
namespace Mine
section
variable {prog : Program} {w : World} {A : Around} {E : Value → Shared → Prop} {s : Shared} {K : Frag} {x C D : Addr} {name : Str} {R : Result → Shared → Prop}
theorem looks_type_at {M : Model} {h : Heap} {ox : Obj} (hx : h.get? x = some ox) (hc : ox.cls = .ref D) : Looks M h (typeOf (.ref x)) (.ref D) := hc ▸ (Looks.ld hx).andThen .now
theorem class_get_at {tp : Value} (X : K.In s.heap) (L0 : Looks (model prog w) s.heap (typeOf (.ref x)) (.ref C)) (hm : mroIn K C (.type "object") = some true)
    (h : R (.ok (.ret (.ref C))) s) : codeAny (model prog w) A (.call (.builtin "getset_descriptor.__get__") ⟨[.builtin "object.__class__", .ref x, tp], []⟩) R s := by
  obtain ⟨hh, g, dr, t, os⟩ := s
  have L1 := looks_mroIn (M := model prog w) X hm
  refine codeAny_call_builtin KF.slot_gs.plain KF.entry_gs (KF.slot_gs.check _ _ _ _ _ _ _ _ KF.type_class (KF.args_gs _ _ _) ?_)
  unfold Builtin.«getset_descriptor.__get__» descrGet
  rw [dga_obj]
  refine wpAny_bind (wpAny_pure ?_)
  unfold descrGetter descrCheckInstance descrNameAndClass isInstance
  simp only [KF.owner_class]
  repeat lk
  refine ⟨Code.quiet_builtin _ (by decide +kernel), codeAny_builtin KF.entry_class ?_⟩
  unfold Builtin.«object.__class__» shownTypeOf
  repeat lk
  exact h
theorem looks_find_data {M : Model} {h : Heap} {v a g : Value} (X : K.In h) (ha : findIn K (.ref C) name = some (some a)) (hg : specialIn K a "__get__" = some (some g)) (ht : takesIn K a = some true) :
    Looks M h (find v (.ref C) name) (.bind g a) := by
  have L1 := looks_findIn (M := M) X ha
  have L2 : Looks M h (getOf (some a)) (some g) := looks_specialIn X hg
  have L3 := looks_takesIn (M := M) X ht
  exact L1.andThen (L2.andThen ((show Looks M h (dataDescriptor? (some a) (some g)) (some (g, a)) from L3.andThen .now).andThen (Looks.tag .now)))
/-- the class of an own exception, asked for -/
theorem class_exc {Q : Option Value → Shared → Prop} (X : K.In s.heap) (L0 : Looks (model prog w) s.heap (typeOf (.ref x)) (.ref D))
   (hga : findIn K (.ref D) "__getattribute__" = some (some (.builtin "BaseException.__getattribute__"))) (hk : findIn K (.ref D) "__getattr__" = some none) (ha : findIn K (.ref D) "__class__" = some (some (.builtin "object.__class__")))
   (hn : specialIn K (.builtin "object.__class__") "__get__" = some (some (.builtin "getset_descriptor.__get__"))) (htk : takesIn K (.builtin "object.__class__") = some true) (hm : mroIn K D (.type "object") = some true) (hb : mroIn K D (.type "BaseException") = some true)
   (h : Q (some (.ref D)) { s with toks := s.toks + 1 }) : wpAny (model prog w) A (getAttr? (.ref x) "__class__") Q E s := by
  obtain ⟨hh, g, d, t, os⟩ := s
  have L1 := looks_findIn (M := model prog w) X hga
  have L2 := looks_findIn (M := model prog w) X hk
  have L3 := looks_find_data (M := model prog w) (v := .ref x) X ha hn htk
  have L4 := looks_mroIn (M := model prog w) X hb
  unfold getAttr? getAttrBy? getAttrBy
  refine wpAny_bind (wpAny_mkText (wpAny_bind (wpAny_attempt (wpAny_holding (wpAny_bind (L0.at (wpAny_bind (L1.at ?_))))))))
  have hx2 : (Value.builtin "BaseException.__getattribute__" == Value.builtin "object.__getattribute__") = false := by decide +kernel
  dsimp only
  rw [if_neg (show ¬ ((onTheHeap (Value.ref D) && Value.builtin "BaseException.__getattribute__" == Value.builtin "object.__getattribute__") = true) from by rw [hx2, Bool.and_false]; exact Bool.false_ne_true)]
  unfold getAttrByItsOwn hookBefore
  rw [if_pos (show onTheHeap (Value.ref D) = true from rfl)]
  refine wpAny_bind (L2.at ?_)
  refine wpAny_bind (wpAny_attempt (wpAny_holding ?_))
  unfold callGetattribute
  rw [if_neg (show ¬ ((false && onTheHeap (Value.builtin "BaseException.__getattribute__")) = true) from by decide)]
  unfold boundAndCalled
  refine wpAny_bind (wpAny_of_eq (PySem.F.excAttr_ValueError.ga.bind (.ref x)) ?_)
  dsimp only [List.cons_append, List.nil_append]
  have hk9 : builtinKind "BaseException.__getattribute__" = some .slot := by decide +kernel
  have hsplit : splitId "BaseException.__getattribute__" = some ("BaseException", "__getattribute__") := by decide +kernel
  refine wpAny_call (codeAny_call_builtin PySem.F.excAttr_ValueError.ga.plain PySem.F.entry_bexc_ga ?_)
  have ha9 := PySem.F.args_bexc_ga (.ref x) (.str "__class__" t)
  simp only [checkBuiltinCall, hk9, hsplit]
  refine wpAny_bind ?_
  unfold isInstance
  repeat (first | lk | wp_step)
  refine wpAny_run (c := .call (.builtin "getset_descriptor.__get__") ⟨[.builtin "object.__class__", .ref x, .ref D], []⟩) (h := none) ?_ (by intro q; cases q)
  refine class_get_at X L0 hm ?_
  dsimp only
  refine wpAny_pure ?_
  refine wpAny_pure ?_
  dsimp only
  rw [handedOut_of (show handedIn (Value.ref D) = true from rfl)]
  exact wpAny_pure (wpAny_pure h)
/-- the class of an instance whose class has a hook for names -/
theorem class_hook {Q : Option Value → Shared → Prop} {hook : Value} (X : K.In s.heap) (L0 : Looks (model prog w) s.heap (typeOf (.ref x)) (.ref D))
   (hga : findIn K (.ref D) "__getattribute__" = some (some (.builtin "object.__getattribute__"))) (hk : findIn K (.ref D) "__getattr__" = some (some hook)) (ha : findIn K (.ref D) "__class__" = some (some (.builtin "object.__class__")))
   (hn : specialIn K (.builtin "object.__class__") "__get__" = some (some (.builtin "getset_descriptor.__get__"))) (htk : takesIn K (.builtin "object.__class__") = some true) (hm : mroIn K D (.type "object") = some true)
   (h : Q (some (.ref D)) { s with toks := s.toks + 1 }) : wpAny (model prog w) A (getAttr? (.ref x) "__class__") Q E s := by
  obtain ⟨hh, g, d, t, os⟩ := s
  have L1 := looks_findIn (M := model prog w) X hga
  have L2 := looks_findIn (M := model prog w) X hk
  have L3 := looks_find_data (M := model prog w) (v := .ref x) X ha hn htk
  unfold getAttr? getAttrBy? getAttrBy
  refine wpAny_bind (wpAny_mkText (wpAny_bind (wpAny_attempt (wpAny_holding (wpAny_bind (L0.at (wpAny_bind (L1.at ?_))))))))
  show wpAny _ _ (getAttrEveryday _ _ _) _ _ _
  refine wpAny_bind (wpAny_onRaise (wpAny_runValue (codeAny_builtin PySem.F.plainObj_entry_getattr_hooked ?_)))
  refine wpAny_bind (wpAny_pure (wpAny_bind (L0.at (wpAny_bind (L3.at (wpAny_bind (L2.at ?_)))))))
  show wpAny _ _ (bindOrHook _ _ _ _ _ _) _ _ _
  unfold bindOrHook
  refine wpAny_bind (wpAny_attempt (wpAny_holding ?_))
  show wpAny _ _ (holding [_] (call _ [_, .ref x, .ref D]) >>= ret) _ _ _
  refine wpAny_bind (wpAny_holding (wpAny_call (class_get_at (s := ⟨hh, g, d, t + 1, os⟩) X L0 hm ?_)))
  dsimp only
  refine wpAny_pure (wpAny_pure ?_)
  dsimp only
  rw [handedOut_of (show handedIn (Value.ref D) = true from rfl)]
  exact wpAny_pure (wpAny_pure h)
/-- isinstance says no -/
theorem isn_nested {c : Addr} {dep : Int} {tk : Tok} {Q : Fin → Shared → Prop} (X : K.In s.heap) (L0 : Looks (model prog w) s.heap (typeOf (.ref x)) (.ref D)) (e : kin_not K D c = true) (hdct : (clsIn K D).isSome = true)
    (hcl : ∀ (A : Around) E (Q : Option Value → Shared → Prop), Q (some (.ref D)) { s with toks := s.toks + 1 } → wpAny (model prog w) A (getAttr? (.ref x) "__class__") Q E s) (h : Q (.done (.ret (.bool false))) { s with toks := s.toks + 1 }) :
    wpAny (model prog w) A (Builtin.«isinstance.nested» ⟨[.ref x, .ref c, .int dep tk], []⟩) Q E s := by
  unfold kin_not at e
  rw [Bool.and_eq_true, Bool.and_eq_true, Bool.and_eq_true] at e
  obtain ⟨⟨⟨e0, e1⟩, e2⟩, e3⟩ := e
  have isT : ∀ c, (clsIn K c).isSome = true → Looks (model prog w) s.heap (isType (.ref c)) true := fun c hc => by
    unfold clsIn at hc
    split at hc
    · rename_i c' d' cd' sl' ho
      intro A' Q' E' s' k q
      unfold isType loadHead
      exact wpAny_bind (wpAny_loadPart (k _ _ (X _ _ ho)) (wpAny_pure q))
    · cases hc
  have hisD := isT D hdct
  have his := isT c e1
  have hty := looks_typeIn (M := model prog w) X (beq_iff_eq.mp e2)
  have hsub := looks_subIn (M := model prog w) X (beq_iff_eq.mp e3)
  have hne : (Value.ref D == Value.ref c) = false := Bool.eq_false_iff.mpr fun q => of_decide_eq_true e0 (Value.ref.inj (beq_iff_eq.mp q))
  obtain ⟨h0, g, d, tt, os⟩ := s
  have LI : Looks (model prog w) h0 (isInstance (.ref x) (.ref c)) false := L0.andThen hsub
  unfold Builtin.«isinstance.nested»
  refine wpAny_bind (L0.at ?_)
  rw [if_neg (fun q => by rw [hne] at q; exact Bool.noConfusion q)]
  refine wpAny_bind (hty.at ?_)
  rw [if_pos (by decide)]
  k_delta "plainIsInstance"
  refine wpAny_bind (wpAny_bind (his.at ?_))
  simp only [Bool.not_true, Bool.false_eq_true, if_false]
  refine wpAny_bind (LI.at ?_)
  simp only [Bool.false_eq_true, if_false]
  refine wpAny_bind (hcl _ _ _ ?_)
  refine wpAny_bind (hisD.at ?_)
  simp only [Bool.not_true, Bool.false_eq_true, if_false]
  refine wpAny_bind (wpAny_rule ?_)
  refine hsub.at ?_
  first
    | exact wpAny_pure h
    | exact wpAny_pure (wpAny_pure h)
    | exact wpAny_bind (wpAny_pure (wpAny_pure h))
theorem isn_exc {c : Addr} {ox : Obj} {Q : Value → Shared → Prop} (X : K.In s.heap) (hx : s.heap.get? x = some ox) (hcx : ox.cls = .ref D) (e : kin_not K D c = true) (hdct : hasDictIn K D = true)
   (hga : findIn K (.ref D) "__getattribute__" = some (some (.builtin "BaseException.__getattribute__"))) (hk : findIn K (.ref D) "__getattr__" = some none) (ha : findIn K (.ref D) "__class__" = some (some (.builtin "object.__class__")))
   (hn : specialIn K (.builtin "object.__class__") "__get__" = some (some (.builtin "getset_descriptor.__get__"))) (htk : takesIn K (.builtin "object.__class__") = some true) (hm : mroIn K D (.type "object") = some true) (hb : mroIn K D (.type "BaseException") = some true)
   (h : Q (.bool false) { s with toks := s.toks + 1 }) : wpAny (model prog w) A (call (.builtin "isinstance") [.ref x, .ref c]) Q E s :=
  call_isinstance (S := fun _ R s => (K.In s.heap ∧ s.heap.get? x = some ox) ∧ R (.ok (.ret (.bool false))) { s with toks := s.toks + 1 })
    (fun _ _ _ _ s hs => isinstance_outer (isn_nested hs.1.1 (looks_type_at hs.1.2 hcx) e (by obtain ⟨cd, hc, _⟩ := any_some hdct; rw [hc]; rfl) (fun _ _ _ q => class_exc hs.1.1 (looks_type_at hs.1.2 hcx) hga hk ha hn htk hm hb q) hs.2) (by intro q; cases q)) ⟨⟨X, hx⟩, h⟩
theorem isn_hook {c : Addr} {ox : Obj} {hook : Value} {Q : Value → Shared → Prop} (X : K.In s.heap) (hx : s.heap.get? x = some ox) (hcx : ox.cls = .ref D) (e : kin_not K D c = true) (hdct : hasDictIn K D = true)
   (hga : findIn K (.ref D) "__getattribute__" = some (some (.builtin "object.__getattribute__"))) (hk : findIn K (.ref D) "__getattr__" = some (some hook)) (ha : findIn K (.ref D) "__class__" = some (some (.builtin "object.__class__")))
   (hn : specialIn K (.builtin "object.__class__") "__get__" = some (some (.builtin "getset_descriptor.__get__"))) (htk : takesIn K (.builtin "object.__class__") = some true) (hm : mroIn K D (.type "object") = some true)
   (h : Q (.bool false) { s with toks := s.toks + 1 }) : wpAny (model prog w) A (call (.builtin "isinstance") [.ref x, .ref c]) Q E s :=
  call_isinstance (S := fun _ R s => (K.In s.heap ∧ s.heap.get? x = some ox) ∧ R (.ok (.ret (.bool false))) { s with toks := s.toks + 1 })
    (fun _ _ _ _ s hs => isinstance_outer (isn_nested hs.1.1 (looks_type_at hs.1.2 hcx) e (by obtain ⟨cd, hc, _⟩ := any_some hdct; rw [hc]; rfl) (fun _ _ _ q => class_hook hs.1.1 (looks_type_at hs.1.2 hcx) hga hk ha hn htk hm q) hs.2) (by intro q; cases q)) ⟨⟨X, hx⟩, h⟩
end
end Mine
end
-- BsC
section
open PySem PySem.W PyProof.Rows
namespace Mine
section
variable {prog : Program} {w : World} {A : Around} {s : Shared} {K : Frag} {R : Result → Shared → Prop}
/-- a call of a def of the text whose names have cells -/
theorem enterC {name qual : Str} {params : Arguments} {body : List Stmt} {scope : Scope} {dV kV doc pm cdv ct oc : Value} {an od : Option Addr} {osl : Array (Option Value)} {f : Addr} {args : Args} {binds : List (Str × Value)}
    (X : K.In s.heap) (hlim : s.heap.NoLimit)
    (ho : K.lookup f = some ⟨oc, od, .func (fnOf name qual params body scope dV kV doc pm an cdv ct), osl⟩) (hcd : codeIn K cdv qual = true) (hroom : A.depth < recursionLimit)
    (hbind : BindsTo s (fnOf name qual params body scope dV kV doc pm an cdv ct) args binds) (hkind : (binds.all fun y => scope.names.lookup y.1 == some .local || scope.names.lookup y.1 == some .cell) = true)
    (hnd : ((cellsFrom 0 scope.names []).map (·.1)).Nodup)
    (h : ∀ L h₁ tk cells, Fr s.heap L h₁ (bindL (envOfC qual scope L f cdv).kindOf binds fun _ => none) → News s.heap L h₁ cells → CellsAre (bindC (envOfC qual scope L f cdv).kindOf binds fun _ => none) (cellsFrom (L + 1) scope.names []) cells →
      wpAny (model prog w) (A.deeper (envOfC qual scope L f cdv)) (execs body (envOfC qual scope L f cdv))
        (fun fl s' => R (.ok (.ret (match fl with | .ret v => v | _ => .none))) s')
        (fun e s' => wpAny (model prog w) (A.deeper (envOfC qual scope L f cdv)) (leaving (envOfC qual scope L f cdv) e) (fun _ s'' => R (.error e) s'') (fun e' s'' => R (.error e') s'') s')
        { s with heap := h₁, toks := tk })
    (hco : scope.isCoroutine = false) (hgen : scope.isGenerator = false) (hk : scope.kind = .function) : codeAny (model prog w) A (.call (.ref f) args) R s := by
  refine codeAny_call_function hroom (X _ _ ho) rfl hco hgen rfl (codeRec_of X hcd) (hbind _ _ _ _ ?_)
  refine wpAny_newFunctionEnv_cells hk (kindsX hkind _) fun env' he s' x => ?_
  subst he
  refine ⟨hlim.keeps x.toInCall.keep, codeAny_func ?_⟩
  obtain ⟨h₁, tk, rfl, _⟩ := x.done
  have hk₁ := x.toInCall.keep
  obtain ⟨cells, NC, Y⟩ := Cl.news (h₀ := s.heap) (Nat.le_refl _) fun n c hm => ⟨x.cell n c (lookup_of_mem_nodup (cellsFrom_names scope.names 0 (s.heap.objs.size + 1) [] [] rfl ▸ hnd) hm), x.above n c hm⟩
  exact h s.heap.objs.size h₁ tk cells ⟨x.toInCall.ns, hk₁, Nat.le_refl _⟩ NC Y
end
end Mine
end
-- Sh
section
local macro_rules | `(tactic| walk_at "mine no such step") => `(tactic| skip)
local macro_rules | `(tactic| walk_at "mine no such step") => `(tactic| skip)
local macro_rules | `(tactic| walk_at "mine no such step") => `(tactic| skip)
local macro_rules | `(tactic| walk_at "mine no such step") => `(tactic| skip)
local macro_rules | `(tactic| walk_at "mine no such step") => `(tactic| skip)
local macro_rules | `(tactic| walk_at "mine no such step") => `(tactic| skip)
local macro_rules | `(tactic| walk_at "mine no such step") => `(tactic| skip)
local macro_rules | `(tactic| walk_at "mine no such step") => `(tactic| skip)
local macro_rules | `(tactic| walk_at "mine no such step") => `(tactic| skip)
local macro_rules | `(tactic| walk_at "mine no such step") => `(tactic| skip)
local macro_rules | `(tactic| walk_at "mine no such step") => `(tactic| skip)
local macro_rules | `(tactic| walk_at "mine no such step") => `(tactic| skip)
local macro_rules | `(tactic| walk_at "mine no such step") => `(tactic| skip)
local macro_rules | `(tactic| walk_at "mine no such step") => `(tactic| skip)
local macro_rules | `(tactic| walk_at "mine no such step") => `(tactic| skip)
local macro_rules | `(tactic| walk_at "mine no such step") => `(tactic| skip)
local macro_rules | `(tactic| walk_at "mine no such step") => `(tactic| skip)
local macro_rules | `(tactic| walk_at "mine no such step") => `(tactic| skip)
local macro_rules | `(tactic| walk_at "mine no such step") => `(tactic| skip)
local macro_rules | `(tactic| walk_at "mine no such step") => `(tactic| skip)
local macro_rules | `(tactic| walk_at "mine no such step") => `(tactic| skip)
local macro_rules | `(tactic| walk_at "mine no such step") => `(tactic| skip)
local macro_rules | `(tactic| walk_at "mine no such step") => `(tactic| skip)
local macro_rules | `(tactic| walk_at "mine no such step") => `(tactic| skip)
local macro_rules | `(tactic| walk_at "mine no such step") => `(tactic| skip)
local macro_rules | `(tactic| walk_at "mine no such step") => `(tactic| skip)
local macro_rules | `(tactic| walk_at "mine no such step") => `(tactic| skip)
local macro_rules | `(tactic| walk_at "mine no such step") => `(tactic| skip)
local macro_rules | `(tactic| walk_at "mine no such step") => `(tactic| skip)
local macro_rules | `(tactic| walk_at "mine no such step") => `(tactic| skip)
local macro_rules | `(tactic| walk_at "mine no such step") => `(tactic| skip)
local macro_rules | `(tactic| walk_at "mine no such step") => `(tactic| skip)
local macro_rules | `(tactic| walk_at "mine no such step") => `(tactic| skip)
local macro_rules | `(tactic| walk_at "mine no such step") => `(tactic| skip)
local macro_rules | `(tactic| walk_at "mine no such step") => `(tactic| skip)
local macro_rules | `(tactic| walk_at "mine no such step") => `(tactic| skip)
local macro_rules | `(tactic| walk_at "mine no such step") => `(tactic| skip)
local macro_rules | `(tactic| walk_at "mine no such step") => `(tactic| skip)
local macro_rules | `(tactic| walk_at "mine no such step") => `(tactic| skip)
local macro_rules | `(tactic| walk_at "mine no such step") => `(tactic| skip)
open PySem PySem.W PyProof.Rows
set_option maxRecDepth 100000
set_option linter.all false
namespace Mine
abbrev dsS (x : String) : Dat := .str (Str.ofString x)
/-- what the law shows of a message -/
def showD : PRes → Dat
  | .err C => if C = 89 then .list [dsS "refused", dsS "sum"] else if C = 77 then .list [dsS "refused", dsS "kind"] else .list [dsS "refused", dsS "no sentence"]
  | .talker C t k d => .list [if C = 310 then dsS "WPL" else dsS "TXT", .str t, .str k, .list (d.map .str)]
  | .query t l k => .list [dsS "question", .str t, .str l, .str k, .list []]
  | .maker m d => .list [dsS "maker", .str m, .list (d.map .str)]
local macro_rules | `(tactic| walk_at "call builtin:isinstance") => `(tactic| (k_here; k_dflt (first
  | (refine' isi_call ?k1 ?k2 ?k3 ?k4 ?_; (case k1 => k_in); (case k2 => (intro M; exact looks_type_at (Fr.keep (by assumption) _ _ (by assumption)) (by first | assumption | rfl))); (case k3 => k_is); (case k4 => intro e; cases e); k_whole)
  | (refine' isn_exc ?k1 ?k2 ?k2b ?k3 ?k4 ?k5 ?k6 ?k7 ?k8 ?k9 ?k10 ?k11 ?_; (case k1 => k_in); (case k2 => exact Fr.keep (by assumption) _ _ (by assumption)); (case k2b => first | assumption | rfl); (case k3 => kin_no); (case k4 => k_is); (case k5 => k_is); (case k6 => k_is); (case k7 => k_is); (case k8 => k_is); (case k9 => k_is); (case k10 => k_is); (case k11 => k_is); k_whole)
  | (refine' isn_hook ?k1 ?k2 ?k2b ?k3 ?k4 ?k5 ?k6 ?k7 ?k8 ?k9 ?k10 ?_; (case k1 => k_in); (case k2 => exact Fr.keep (by assumption) _ _ (by assumption)); (case k2b => first | assumption | rfl); (case k3 => kin_no); (case k4 => k_is); (case k5 => k_is); (case k6 => k_is); (case k7 => k_is); (case k8 => k_is); (case k9 => k_is); (case k10 => k_is); k_whole))))
theorem nl_cons {h g : Heap} {a : Addr} {o : Obj} {nl : List (Addr × Obj)} (e : h.get? a = some o) (f : g.get? a = none) (d : ∀ vs, o.data ≠ .fields vs) (k : ∀ p ∈ nl, h.get? p.1 = some p.2 ∧ g.get? p.1 = none ∧ ∀ vs, p.2.data ≠ .fields vs) : ∀ p ∈ (a, o) :: nl, h.get? p.1 = some p.2 ∧ g.get? p.1 = none ∧ ∀ vs, p.2.data ≠ .fields vs := fun p hp => by
  rcases List.mem_cons.mp hp with rfl | hp
  · exact ⟨e, f, d⟩
  · exact k p hp
theorem nl_one {g₀ h g : Heap} {L a : Addr} {vs : Array Value} {n : Nat} (N : News g₀ L h [(a, W.listOf vs n)]) (k : ∀ a, g₀.get? a = none → g.get? a = none) : ∀ p ∈ [((a, W.listOf vs n) : Addr × Obj)], h.get? p.1 = some p.2 ∧ g.get? p.1 = none ∧ ∀ vs, p.2.data ≠ .fields vs := fun p hp =>
  ⟨(N p hp).1, k _ (N p hp).2.2, fun vs q => by rw [List.mem_singleton.mp hp] at q; cases q⟩
theorem datAll_str (nl : List (Addr × Obj)) (l : List (Str × Tok)) : DatAll nl (strValues l) ((l.map (·.1)).map .str) := by
  unfold strValues
  induction l with
  | nil => exact .nil
  | cons a r ih => exact .cons (.str _ _) ih
theorem get_hook {prog : Program} {w : World} {A : Around} {E : Value → Shared → Prop} {s : Shared} {K : Frag} {x C d : Addr} {es : List DictEntry} {n : Nat} {name : Str} {v : Value} {attr : Option Value} {expr : Bool} {ox : Obj} {Q : Value → Shared → Prop}
   (X : K.In s.heap) (hx : s.heap.get? x = some ox) (hd : s.heap.get? d = some (dictOf es n)) (hg : findIn K (.ref C) "__getattribute__" = some (some (.builtin "object.__getattribute__"))) (hh : hasDictIn K C = true)
   (ha : findIn K (.ref C) name = some attr) (hn : noGet K attr = true) (hl : getL name es = some (some v)) (hv : handedIn v = true) (hox : ox = instObj C d) (h : Q v { s with toks := s.toks + 1 }) :
   wpAny (model prog w) A (getAttr (.ref x) name expr) Q E s := by
  subst hox
  exact get_value X ⟨hx, rfl, rfl, hd⟩ hg (findObj_own (od := dictOf es n) hh ha hn hl) hv h
local macro_rules | `(tactic| walk_at "getAttr ref") => `(tactic| (k_here; k_dflt (refine' get_hook ?k1 ?k2 ?k3 ?k4 ?k5 ?k6 ?k7 ?k8 ?k9 ?k10 ?_; (case k1 => k_in); (case k2 => exact Fr.keep (by assumption) _ _ (by assumption)); (case k10 => exact rfl); (case k3 => exact Fr.keep (by assumption) _ _ (by assumption)); (case k4 => k_is); (case k5 => k_is); (case k6 => k_is); (case k7 => k_is); (case k8 => k_get); (case k9 => k_handed); k_whole)))
local macro_rules | `(tactic| walk_at "m_show") => `(tactic| (k_dflt (refine' enter ?k1 ?k2 ?k6 ?k7 ?k8 ?k9 ?kB ?_ ?c2 ?c3 ?c4 ?c5; (case k1 => assumption); (case k2 => exact Top.nolimit (by assumption)); (case k6 => k_is); (case k7 => k_is); (case k8 => assumption); (case k9 => exact BindsTo.of_eq rfl); (case c5 => decide); (case kB => exact locs rfl); (case c2 => exact rfl); (case c3 => exact rfl); (case c4 => exact rfl); k_whole)))
local macro_rules | `(tactic| walk_at "m_dat") => `(tactic| first | exact DatIn.str _ _ | exact DatIn.list (by k_mem) (datAll_str _ _) | (refine DatIn.list (by k_mem) ?_; walk_at "m_dats"))
local macro_rules | `(tactic| walk_at "m_dats") => `(tactic| first | exact DatAll.nil | (refine DatAll.cons ?_ ?_ <;> first | walk_at "m_dat" | walk_at "m_dats"))
set_option maxHeartbeats 8000000 in
theorem show_spec {prog : Program} {w : World} {mean : ExcName → Option Value} {mg mb : Str → Option Value} {loose : List Str}
   {A : Around} {outer : List Env} {g : Heap} {s : Shared} {R : Result → Shared → Prop} {r : PRes} {v : Value}
   (X : (hd.heap_39 w.params).In s.heap) (T : Top hd.view_39 loose mean mg mb s.heap) (hfr : A.frames = some outer) (hh : A.handled = none) (hdp : A.depth < 800) (hu : A.units < 8000)
   (hgn : ∀ a, s.heap.get? a = none → g.get? a = none) (hm : MsgAt w.params g s.heap r v)
   (hret : ∀ h' tk' nl a, s.heap.StaysIn h' → (∀ p ∈ nl, h'.get? p.1 = some p.2 ∧ g.get? p.1 = none ∧ ∀ vs, p.2.data ≠ .fields vs) → DatIn nl (.ref a) (showD r) → R (.ok (.ret (.ref a))) { s with heap := h', toks := tk' }) :
   codeAny (model prog w) A (.call (.ref 336) ⟨[v], []⟩) R s := by
  w_top off
  obtain ⟨hd0, dp, fr, gd, un⟩ := A
  obtain rfl : hd0 = none := hh
  dsimp only at hfr
  subst hfr
  replace hdp : dp < 800 := hdp
  replace hu : un < 8000 := hu
  have hroom : dp < recursionLimit := Nat.lt_of_lt_of_le hdp (by decide)
  cases r with
  | err C =>
    obtain ⟨hC, e, oe, rfl, hoe, hoc, _⟩ := hm
    rcases hC with rfl | rfl | rfl
    all_goals
      walk_at "m_show"
      intro L h1 F N
      dsimp only
      generalize s.toks + _ = tk0
      replace F : Fr s.heap L h1 (fun y => List.lookup y [(Str.ofString "msg", .ref e)]) := F
      k_steps
      rename Fr _ _ _ _ => F9
      rename News _ _ _ _ => N9
      refine hret _ _ _ _ F9.keep (nl_one N9 hgn) ?_
      unfold showD
      dsimp only
      first | rw [if_pos rfl] | rw [if_neg (by decide), if_pos rfl] | rw [if_neg (by decide), if_neg (by decide)]
      walk_at "m_dat"
  | talker C n1 n2 dd =>
    obtain ⟨x, rfl, d, l2, l, c, k1, k2, k3, t1, t2, f1, f2, f3, hC, e1, e2, hl, e3⟩ := hm
    rcases hC with rfl | rfl
    all_goals
      walk_at "m_show"
      intro L h1 F N
      dsimp only
      generalize s.toks + _ = tk0
      replace F : Fr s.heap L h1 (fun y => List.lookup y [(Str.ofString "msg", .ref x)]) := F
      k_steps
      rename Fr _ _ _ _ => F9
      rename News _ _ _ _ => N9
      refine hret _ _ ((l2, W.listOf (strValues l).toArray c) :: _) _ F9.keep (nl_cons (F9.keep _ _ e2) f3 (fun vs q => by cases q) (nl_one N9 hgn)) ?_
      unfold showD
      dsimp only
      first | rw [if_pos rfl] | rw [if_neg (by decide)]
      rw [← hl]
      walk_at "m_dat"
  | query n1 n2 n3 =>
    obtain ⟨x, rfl, d, l2, c, k1, k2, k3, k4, t1, t2, t3, f1, f2, f3, e1, e2, e3⟩ := hm
    walk_at "m_show"
    intro L h1 F N
    dsimp only
    generalize s.toks + _ = tk0
    replace F : Fr s.heap L h1 (fun y => List.lookup y [(Str.ofString "msg", .ref x)]) := F
    k_steps
    rename Fr _ _ _ _ => F9
    rename News _ _ _ _ => N9
    refine hret _ _ ((l2, W.listOf #[] c) :: _) _ F9.keep (nl_cons (F9.keep _ _ e2) f3 (fun vs q => by cases q) (nl_one N9 hgn)) ?_
    unfold showD
    dsimp only
    walk_at "m_dat"
  | maker n1 dd =>
    obtain ⟨x, rfl, d, l2, l, c, k1, k2, t1, f1, f2, f3, e1, e2, hl, e3⟩ := hm
    walk_at "m_show"
    intro L h1 F N
    dsimp only
    generalize s.toks + _ = tk0
    replace F : Fr s.heap L h1 (fun y => List.lookup y [(Str.ofString "msg", .ref x)]) := F
    k_steps
    rename Fr _ _ _ _ => F9
    rename News _ _ _ _ => N9
    refine hret _ _ ((l2, W.listOf (strValues l).toArray c) :: _) _ F9.keep (nl_cons (F9.keep _ _ e2) f3 (fun vs q => by cases q) (nl_one N9 hgn)) ?_
    unfold showD
    dsimp only
    rw [← hl]
    walk_at "m_dat"
end Mine
end
-- Sky
section
open PySem PySem.W PyProof.Rows
set_option maxRecDepth 100000
set_option linter.all false
namespace Mine
/-- an exception that a frame looks at; B stays as it is -/
structure Sky (B : Heap) (L : Addr) (env : Env) (outer : List Env) (g : Heap) (e : Addr) (cls a0 fl : Value) (m : Str → Option Value) (h : Heap) : Prop where
  st : B.StaysIn h
  en : B.get? e = none
  ff : h.FunFrames B (env :: outer)
  tr : h.TracedAtW B e cls a0 fl
  nsL : h.Ns L m
  ns : ∀ b ∈ frs outer, ∀ m, g.Ns b m → h.Ns b m
section
variable {B g h h' base : Heap} {L e : Addr} {env : Env} {outer : List Env} {cls a0 fl : Value} {m m' : Str → Option Value}
theorem Sky.fly (a : Sky B L env outer g e cls a0 .none m h) : Heap.FlyingW B (env :: outer) e cls a0 h := ⟨a.st, a.en, a.ff, a.tr⟩
theorem Sky.held (a : Sky B L env outer g e cls a0 (rawInt L) m h) : Heap.HeldW B (env :: outer) e cls a0 L h := ⟨a.st, a.en, a.ff, a.tr⟩
theorem Sky.upF (a : Sky B L env outer g e cls a0 fl m h) (f : Heap.FlyingW B (env :: outer) e cls a0 h') (u : h.UpToSlots h') : Sky B L env outer g e cls a0 .none m h' :=
  ⟨f.1, f.2.1, f.2.2.1, f.2.2.2, u.ns a.nsL, fun b hb m hm => u.ns (a.ns b hb m hm)⟩
theorem Sky.upH (a : Sky B L env outer g e cls a0 fl m h) (f : Heap.HeldW B (env :: outer) e cls a0 L h') (u : h.UpToSlots h') : Sky B L env outer g e cls a0 (rawInt L) m h' :=
  ⟨f.1, f.2.1, f.2.2.1, f.2.2.2, u.ns a.nsL, fun b hb m hm => u.ns (a.ns b hb m hm)⟩
/-- what is hidden of a heap where an exception comes: the frames, the exception, its trace -/
def skyB (l : List Addr) (e T : Addr) (h : Heap) : Heap := hideH (fun b => l.contains b || b == e || b == T) h
theorem sky_none {l : List Addr} {e T b : Addr} (k : b ∈ l ∨ b = e ∨ b = T) : (skyB l e T h).get? b = none := hide_none (by
  rcases k with k | k | k
  · simp [k]
  · simp [k]
  · simp [k])
theorem sky_some {l : List Addr} {e T b : Addr} (k1 : b ∉ l) (k2 : b ≠ e) (k3 : b ≠ T) : (skyB l e T h).get? b = h.get? b := hide_some (by simp [k1, k2, k3])
theorem Sky.start (f : Heap.FlyingW base (env :: outer) e cls a0 h) (hf : env.frame = some L) (hn : h.Ns L m) :
    ∃ T, Sky (skyB (L :: frs outer) e T h) L env outer h e cls a0 .none m h ∧ base.get? T = none ∧ (∃ o, h.get? T = some o ∧ ∃ vs, o.data = .fields vs) ∧ (∃ o, h.get? e = some o ∧ ∃ vs, o.data = .fields vs) := by
  obtain ⟨f1, f2, f3, oe, vs, T, oT, ts, he, hc, hd, h1, hb, hne, hT, hdT, h3⟩ := f
  refine ⟨T, ⟨hide_stays, sky_none (.inr (.inl rfl)), funFrames_base f3 fun b hb => sky_none (.inl ?_), ⟨oe, vs, T, oT, ts, he, hc, hd, h1, sky_none (.inr (.inr rfl)), hne, hT, hdT, h3⟩, hn, fun _ _ _ x => x⟩, hb, ⟨oT, hT, ts, hdT⟩, ⟨oe, he, vs, hd⟩⟩
  have efr : frs (env :: outer) = L :: frs outer := by
    show List.filterMap _ _ = _
    rw [List.filterMap_cons, hf]
  rw [← efr]; exact hb
theorem Sky.down {T : Addr} (a : Sky (skyB (L :: frs outer) e T g') L env outer g e cls a0 fl m h) (k : base.StaysIn g') (gf : ∀ b ∈ L :: frs outer, base.get? b = none) (ge : base.get? e = none) (gT : base.get? T = none) : base.StaysIn h :=
  fun b o q => a.st b o (by
    rw [sky_some (fun z => by rw [gf b z] at q; cases q) (fun z => by rw [z, ge] at q; cases q) (fun z => by rw [z, gT] at q; cases q)]
    exact k b o q)
theorem Sky.ffd (a : Sky B L env outer g e cls a0 fl m h) (gf : ∀ b ∈ frs (env :: outer), base.get? b = none) : h.FunFrames base (env :: outer) := funFrames_base a.ff gf
theorem Sky.at_ {T b : Addr} {o oe oT : Obj} (a : Sky (skyB (L :: frs outer) e T g') L env outer g e cls a0 fl m h) (hb : g'.get? b = some o) (nd : ∀ vs, o.data ≠ .fields vs) (nb : b ∉ L :: frs outer) (he : g'.get? e = some oe) (hde : ∃ vs, oe.data = .fields vs) (hT : g'.get? T = some oT) (hdT : ∃ vs, oT.data = .fields vs) : h.get? b = some o :=
  a.st b o (by
    rw [sky_some nb (fun z => by
      obtain ⟨vs, q⟩ := hde
      rw [z, he] at hb; cases hb; exact nd vs q) (fun z => by
      obtain ⟨vs, q⟩ := hdT
      rw [z, hT] at hb; cases hb; exact nd vs q)]
    exact hb)
end
end Mine
end
-- Tl
section
local macro_rules | `(tactic| walk_at "mine no such step") => `(tactic| skip)
local macro_rules | `(tactic| walk_at "mine no such step") => `(tactic| skip)
local macro_rules | `(tactic| walk_at "mine no such step") => `(tactic| skip)
local macro_rules | `(tactic| walk_at "mine no such step") => `(tactic| skip)
local macro_rules | `(tactic| walk_at "mine no such step") => `(tactic| skip)
local macro_rules | `(tactic| walk_at "mine no such step") => `(tactic| skip)
local macro_rules | `(tactic| walk_at "mine no such step") => `(tactic| skip)
local macro_rules | `(tactic| walk_at "mine no such step") => `(tactic| skip)
local macro_rules | `(tactic| walk_at "mine no such step") => `(tactic| skip)
local macro_rules | `(tactic| walk_at "mine no such step") => `(tactic| skip)
local macro_rules | `(tactic| walk_at "mine no such step") => `(tactic| skip)
local macro_rules | `(tactic| walk_at "mine no such step") => `(tactic| skip)
local macro_rules | `(tactic| walk_at "mine no such step") => `(tactic| skip)
local macro_rules | `(tactic| walk_at "mine no such step") => `(tactic| skip)
local macro_rules | `(tactic| walk_at "mine no such step") => `(tactic| skip)
local macro_rules | `(tactic| walk_at "mine no such step") => `(tactic| skip)
local macro_rules | `(tactic| walk_at "mine no such step") => `(tactic| skip)
local macro_rules | `(tactic| walk_at "mine no such step") => `(tactic| skip)
local macro_rules | `(tactic| walk_at "mine no such step") => `(tactic| skip)
local macro_rules | `(tactic| walk_at "mine no such step") => `(tactic| skip)
local macro_rules | `(tactic| walk_at "mine no such step") => `(tactic| skip)
local macro_rules | `(tactic| walk_at "mine no such step") => `(tactic| skip)
local macro_rules | `(tactic| walk_at "mine no such step") => `(tactic| skip)
local macro_rules | `(tactic| walk_at "mine no such step") => `(tactic| skip)
local macro_rules | `(tactic| walk_at "mine no such step") => `(tactic| skip)
local macro_rules | `(tactic| walk_at "mine no such step") => `(tactic| skip)
local macro_rules | `(tactic| walk_at "mine no such step") => `(tactic| skip)
local macro_rules | `(tactic| walk_at "mine no such step") => `(tactic| skip)
local macro_rules | `(tactic| walk_at "mine no such step") => `(tactic| skip)
local macro_rules | `(tactic| walk_at "mine no such step") => `(tactic| skip)
local macro_rules | `(tactic| walk_at "mine no such step") => `(tactic| skip)
local macro_rules | `(tactic| walk_at "mine no such step") => `(tactic| skip)
local macro_rules | `(tactic| walk_at "mine no such step") => `(tactic| skip)
local macro_rules | `(tactic| walk_at "mine no such step") => `(tactic| skip)
local macro_rules | `(tactic| walk_at "mine no such step") => `(tactic| skip)
local macro_rules | `(tactic| walk_at "mine no such step") => `(tactic| skip)
local macro_rules | `(tactic| walk_at "mine no such step") => `(tactic| skip)
local macro_rules | `(tactic| walk_at "mine no such step") => `(tactic| skip)
local macro_rules | `(tactic| walk_at "mine no such step") => `(tactic| skip)
local macro_rules | `(tactic| walk_at "mine no such step") => `(tactic| skip)
open PySem PySem.W PyProof.Rows
set_option maxRecDepth 100000
set_option linter.all false
namespace Mine
abbrev tmap (R kd got : Addr) (lean : Bool) (piece : Str) (tp : Tok) (om : Option Value) : Str → Option Value := fun y =>
  if y = Str.ofString "msg" then om else if y = Str.ofString "got" then some (.ref got) else if y = Str.ofString "kinds" then some (.ref kd) else List.lookup y [(Str.ofString "piece", .str piece tp), (Str.ofString "lean", .bool lean), (Str.ofString "reader", .ref R)]
theorem tmap_msg {R kd got : Addr} {lean : Bool} {piece : Str} {tp : Tok} {om u : Option Value} (y : Str) : (if y = Str.ofString "msg" then u else tmap R kd got lean piece tp om y) = tmap R kd got lean piece tp u y := by
  unfold tmap
  by_cases q : y = Str.ofString "msg"
  · subst q; rw [if_pos rfl, if_pos rfl]
  · rw [if_neg q, if_neg q, if_neg q]
theorem tmap_start {R kd got : Addr} {lean : Bool} {piece : Str} {tp : Tok} (y : Str) : (if y = Str.ofString "got" then some (.ref got) else if y = Str.ofString "kinds" then some (.ref kd) else List.lookup y [(Str.ofString "piece", .str piece tp), (Str.ofString "lean", .bool lean), (Str.ofString "reader", .ref R)]) = tmap R kd got lean piece tp none y := by
  unfold tmap
  by_cases q : y = Str.ofString "msg"
  · subst q; rw [if_neg (by decide), if_neg (by decide), if_pos rfl]; rfl
  · rw [if_neg q]
/-- what stands between two messages -/
structure TSt (P : Params) (base gc : Heap) (env : Env) (outer : List Env) (L R D kd got : Addr) (lean : Bool) (piece : Str) (tp : Tok) (s : Shared) (ds : List Dat) (s' : Shared) : Prop where
  same : s' = { s with heap := s'.heap, gens := s'.gens, toks := s'.toks }
  ns : ∃ om, s'.heap.Ns L (tmap R kd got lean piece tp om)
  st : base.StaysIn s'.heap
  ff : s'.heap.FunFrames base (env :: outer)
  fn : ∀ b ∈ frs outer, ∀ m, s.heap.Ns b m → s'.heap.Ns b m
  rd : s'.heap.get? R = some (instObj 273 D)
  got : ∃ items cnt nl, s'.heap.get? got = some (W.listOf items.toArray cnt) ∧ DatAll nl items ds ∧ ∀ p ∈ nl, s'.heap.get? p.1 = some p.2 ∧ gc.get? p.1 = none ∧ ∀ vs, p.2.data ≠ .fields vs
  bare : ∀ x ∈ s'.gens, x.bare = true
theorem setGen_heap (s : Shared) (g : Nat) (x : GenState) : (s.setGen g x).heap = s.heap := rfl
theorem bare_set {s : Shared} {g : Nat} {x : GenState} (h : ∀ y ∈ s.gens, y.bare = true) (hx : x.bare = true) : ∀ y ∈ (s.setGen g x).gens, y.bare = true := by
  intro y hy
  have hy' : y ∈ s.gens.setIfInBounds g x := hy
  obtain ⟨i, hi, rfl⟩ := Array.mem_iff_getElem.mp hy'
  by_cases e : g = i
  · subst e
    simp only [Array.getElem_setIfInBounds_self]
    exact hx
  · simp only [Array.size_setIfInBounds] at hi
    rw [Array.getElem_setIfInBounds_ne hi e]
    exact h _ (Array.getElem_mem hi)
def kindD (C : Addr) : Dat := if C = 89 then .list [dsS "raised", dsS "refused", dsS "sum"] else if C = 77 then .list [dsS "raised", dsS "refused", dsS "kind"] else .list [dsS "raised", dsS "refused", dsS "no sentence"]
/-- what is told of a piece -/
def toldL (e : List PRes × Option Addr) : List Dat := e.1.map showD ++ (match e.2 with | none => [] | some C => [kindD C])
theorem own_exc {P : Params} {h : Heap} {e C : Addr} {oe : Obj} (X : (hd.heap_39 P).In h) (hC : C = 64 ∨ C = 77 ∨ C = 89) (he : h.get? e = some oe) (hc : oe.cls = .ref C) : OwnExc h e C := by
  w_top off
  have X' := X
  rcases hC with rfl | rfl | rfl
  · exact ⟨_, _, _, _, _, _, _, _, _, _, _, _, _, _, _, _, _, oe, X' _ _ (by k_is), he, hc, by decide +kernel⟩
  · exact ⟨_, _, _, _, _, _, _, _, _, _, _, _, _, _, _, _, _, oe, X' _ _ (by k_is), he, hc, by decide +kernel⟩
  · exact ⟨_, _, _, _, _, _, _, _, _, _, _, _, _, _, _, _, _, oe, X' _ _ (by k_is), he, hc, by decide +kernel⟩
theorem evsL_fin {way : Str} {lean : Bool} {lns : List Ln} {C : Addr} (h : (evsL way lean lns).2 = some C) : C = 64 ∨ C = 77 ∨ C = 89 := by
  induction lns with
  | nil => cases h
  | cons l r ih =>
    rw [evsL_cons] at h
    cases q : resL lean l with
    | err C' =>
      rw [q] at h
      dsimp only at h
      split at h
      · cases h
        rw [← resL_eq] at q
        exact err_cls q
      · split at h
        · exact ih h
        · exact ih h
    | talker a b c d => rw [q] at h; exact ih h
    | query a b c => rw [q] at h; exact ih h
    | maker a b => rw [q] at h; exact ih h
theorem fresh_of {base h : Heap} {D R a : Addr} {oD oR : Obj} (ga : base.get? a = none) (hD : h.get? D = some oD) (hR : h.get? R = some oR) (n : ∀ q ∈ (D, oD) :: (R, oR) :: restOf base h [D, R], q.1 ≠ a) : h.get? a = none := by
  cases q : h.get? a with
  | none => rfl
  | some o =>
    exfalso
    by_cases q1 : a = D
    · exact n (D, oD) (.head _) q1.symm
    by_cases q2 : a = R
    · exact n (R, oR) (.tail _ (.head _)) q2.symm
    exact n (a, o) (.tail _ (.tail _ (mem_rest.mpr ⟨by simp [q1, q2], ga, q⟩))) rfl
theorem none_above {base : Heap} {L : Addr} (h : base.objs.size ≤ L) : base.get? L = none := Heap.get?_none_of_le h
theorem at_env {M : Model} {A : Around} {env : Env} {c : Code} {R : Result → Shared → Prop} {s : Shared} (k : ∀ e', e' = env → codeAny M (A.deeper e') c R s) : codeAny M (A.deeper env) c R s := k env rfl
def gcP (base : Heap) (l : List Addr) (b : Addr) : Bool := (base.get? b).isSome || l.contains b
/-- a heap in which just base's places and those of a list are taken -/
def gcH (base : Heap) (l : List Addr) : Heap :=
  ⟨((List.range (l.foldl max base.objs.size + 1)).map fun b => if gcP base l b = true then ({ cls := .none, data := .plain } : Obj) else { cls := .none, data := .freed }).toArray, {}⟩
theorem foldl_max_le (l : List Nat) : ∀ (n : Nat), n ≤ l.foldl max n ∧ ∀ b ∈ l, b ≤ l.foldl max n := by
  induction l with
  | nil => exact fun n => ⟨Nat.le_refl _, fun b hb => nomatch hb⟩
  | cons a r ih =>
    intro n
    have := ih (max n a)
    refine ⟨Nat.le_trans (Nat.le_max_left n a) this.1, fun b hb => ?_⟩
    rcases List.mem_cons.mp hb with rfl | hb
    · exact Nat.le_trans (Nat.le_max_right n b) this.1
    · exact this.2 b hb
theorem gcH_none {base : Heap} {l : List Addr} {b : Addr} : (gcH base l).get? b = none ↔ base.get? b = none ∧ b ∉ l := by
  have hm := foldl_max_le l base.objs.size
  have key : (base.get? b).isSome = true ∨ b ∈ l → b < l.foldl max base.objs.size + 1 := fun q => by
    rcases q with q | q
    · obtain ⟨o, e⟩ := Option.isSome_iff_exists.mp q
      exact Nat.lt_succ_of_le (Nat.le_trans (Nat.le_of_lt (Heap.lt_size e)) hm.1)
    · exact Nat.lt_succ_of_le (hm.2 b q)
  have get : (gcH base l).get? b = if b < l.foldl max base.objs.size + 1 ∧ gcP base l b = true then some ({ cls := .none, data := .plain } : Obj) else none := by
    unfold gcH
    generalize gcP base l = P
    show (match ((List.map (fun b => if P b = true then ({ cls := .none, data := .plain } : Obj) else { cls := .none, data := .freed }) _).toArray)[b]? with | some ⟨_, _, .freed, _⟩ => none | o => o) = _
    rw [List.getElem?_toArray, List.getElem?_map]
    by_cases q : b < l.foldl max base.objs.size + 1
    · rw [List.getElem?_range q]
      simp only [Option.map_some]
      by_cases z : P b = true
      · rw [if_pos z, if_pos ⟨q, z⟩]
      · rw [if_neg z, if_neg (fun x => z x.2)]
    · rw [List.getElem?_eq_none (by simpa using Nat.le_of_not_lt q), if_neg (fun x => q x.1)]
      rfl
  rw [get]
  constructor
  · intro h
    have : ¬ ((base.get? b).isSome = true ∨ b ∈ l) := fun q => by
      rw [if_pos ⟨key q, by unfold gcP; rcases q with q | q <;> simp [q]⟩] at h
      cases h
    rw [not_or] at this
    exact ⟨by simpa using this.1, this.2⟩
  · rintro ⟨h1, h2⟩
    rw [if_neg (by unfold gcP; simp [h1, h2])]
theorem evsL_len (way : Str) (lean : Bool) (lns : List Ln) : (evsL way lean lns).1.length ≤ lns.length := by
  induction lns with
  | nil => exact Nat.le_refl _
  | cons l r ih =>
    rw [evsL_cons]
    cases q : resL lean l with
    | err C =>
      dsimp only
      split
      · exact Nat.zero_le _
      · split
        · exact Nat.succ_le_succ ih
        · exact Nat.le_succ_of_le ih
    | talker a b c d => exact Nat.succ_le_succ ih
    | query a b c => exact Nat.succ_le_succ ih
    | maker a b => exact Nat.succ_le_succ ih
theorem allLt_mem {b : Addr} {r : List (Addr × Obj)} (h : AllLt b r) : ∀ p ∈ r, @LT.lt Nat _ p.1 b := by
  induction r with
  | nil => exact fun p hp => nomatch hp
  | cons a r ih =>
    intro p hp
    rcases List.mem_cons.mp hp with rfl | hp
    · exact h.1
    · exact ih h.2 p hp
theorem ne_gt {a b : Addr} {r : List (Addr × Obj)} (h : @LT.lt Nat _ a b ∧ AllLt b r) : b ≠ a := Nat.ne_of_gt h.1
theorem new_none {base h : Heap} {L got l : Addr} {r : List (Addr × Obj)} (hr : restOf base h [L, got] = r) (n1 : l ≠ L) (n2 : base.get? l = none) (n3 : @LT.lt Nat _ got l) (n4 : AllLt l r) : h.get? l = none := by
  cases q : h.get? l with
  | none => rfl
  | some o =>
    have hne : l ≠ got := Nat.ne_of_gt n3
    exact absurd (allLt_mem n4 (l, o) (hr ▸ mem_rest.mpr ⟨by simp [n1, hne], n2, q⟩)) (Nat.lt_irrefl _)
end Mine
end
-- Td
section
open PySem PySem.W PyProof.Rows
set_option maxRecDepth 100000
set_option linter.all false
namespace Mine
theorem rest_news2 {base h : Heap} {D R : Addr} {oD oR : Obj} (hD : h.get? D = some oD) (hR : h.get? R = some oR) (gD : base.get? D = none) (gR : base.get? R = none) :
    ∀ p ∈ (D, oD) :: (R, oR) :: restOf base h [D, R], h.get? p.1 = some p.2 ∧ base.get? p.1 = none := fun p hp => by
  rcases List.mem_cons.mp hp with rfl | hp
  · exact ⟨hD, gD⟩
  rcases List.mem_cons.mp hp with rfl | hp
  · exact ⟨hR, gR⟩
  · exact ⟨(mem_rest.mp hp).2.2, (mem_rest.mp hp).2.1⟩
theorem keepAll_of2 {base h h' : Heap} {L D R : Addr} {m : Str → Option Value} {oD oR : Obj} (F : Fr base L h' m) (N : News base L h' ((D, oD) :: (R, oR) :: restOf base h [D, R])) (hD : h.get? D = some oD) (hR : h.get? R = some oR) (hb : base.StaysIn h) : h.StaysIn h' := fun b o e => by
  by_cases q1 : b = D
  · subst q1; rw [hD] at e; cases e; exact (N (b, _) (.head _)).1
  by_cases q2 : b = R
  · subst q2; rw [hR] at e; cases e; exact (N (b, _) (.tail _ (.head _))).1
  cases g : base.get? b with
  | none => exact (N (b, o) (.tail _ (.tail _ (mem_rest.mpr ⟨by simp [q1, q2], g, e⟩)))).1
  | some o' =>
    have := hb b o' g
    rw [e] at this
    cases this
    exact F.keep b _ g
section
variable {prog : Program} {w : World} {h : Heap} {kd : Addr} {od : Obj} {t u : Tok}
theorem mapOf_ff (e : h.get? kd = some od) (d : od.IsDictOf (strKind prog w) (strPairs [(.str (Str.ofString "WPL") t, .ref 310), (.str (Str.ofString "TXT") u, .ref 292)])) : h.MapOf (strKind prog w) kd (kindsF false) := by
  have m := (Heap.dictOf_iff.mpr ⟨od, e, d⟩ : h.DictOf (strKind prog w) kd _).mapOf
  have q : valueAt (strPairs [(.str (Str.ofString "WPL") t, .ref 310), (.str (Str.ofString "TXT") u, .ref 292)]) = kindsF false := by
    funext k
    unfold kindsF
    by_cases q1 : k = Str.ofString "WPL"
    · subst q1; rfl
    rw [if_neg q1]
    by_cases q2 : k = Str.ofString "TXT"
    · subst q2; rfl
    rw [if_neg (fun x => q2 x.2)]
    have q1' : ¬ Str.ofString "WPL" = k := fun x => q1 x.symm
    have q2' : ¬ Str.ofString "TXT" = k := fun x => q2 x.symm
    simp [strPairs, valueAt, q1', q2']
  exact q ▸ m
theorem mapOf_tt (e : h.get? kd = some od) (d : od.IsDictOf (strKind prog w) (strPairs [(.str (Str.ofString "WPL") t, .ref 310)])) : h.MapOf (strKind prog w) kd (kindsF true) := by
  have m := (Heap.dictOf_iff.mpr ⟨od, e, d⟩ : h.DictOf (strKind prog w) kd _).mapOf
  have q : valueAt (strPairs [(.str (Str.ofString "WPL") t, .ref 310)]) = kindsF true := by
    funext k
    unfold kindsF
    by_cases q1 : k = Str.ofString "WPL"
    · subst q1; rfl
    rw [if_neg q1, if_neg (fun x => Bool.noConfusion x.1)]
    have q1' : ¬ Str.ofString "WPL" = k := fun x => q1 x.symm
    simp [strPairs, valueAt, q1']
  exact q ▸ m
end
local macro_rules | `(tactic| walk_at "call builtin:list.append") => `(tactic| (k_here; (with_reducible show wpAny _ _ (call (Value.builtin _) [Value.ref _, _]) _ _ _); k_dflt (refine' append_K ?k1 ?k2 ?k3 ?_ ?z; (case k1 => k_asm); (case k2 => k_asm); (case k3 => first | exact Upd.head (by assumption) | exact Upd.tail (ne_gt (by assumption)) (Upd.head (by assumption))); (case z => assumption); k_whole); intro h' F' N'))
set_option maxHeartbeats 8000000 in
theorem told_spec {prog : Program} {w : World} {mean : ExcName → Option Value} {mg mb : Str → Option Value} {loose : List Str}
   {A : Around} {outer : List Env} {base : Heap} {s : Shared} {Rr : Result → Shared → Prop} {R D : Addr} {way buf bf piece : Str} {tp : Tok} {lean : Bool} {lns : List Ln}
   (X : (hd.heap_39 w.params).In base) (T : Top hd.view_39 loose mean mg mb base) (hb : base.StaysIn s.heap) (hsz : base.objs.size ≤ s.heap.objs.size) (hdp : A.depth < 600) (hu : A.units < 6000)
   (hh : A.handled = none) (hfr : A.frames = some outer) (ff : s.heap.FunFrames base outer)
   (hR : s.heap.get? R = some (instObj 273 D)) (hD : IsRd w.params way buf s.heap D)
   (gR : base.get? R = none) (gD : base.get? D = none) (nRD : R ≠ D) (nf : ∀ b ∈ [R, D], b ∉ frs outer)
   (hw : way = Str.ofString "raise" ∨ way = Str.ofString "yield" ∨ way = Str.ofString "ignore")
   (hbl : buf.length ≤ 2048) (hpl : piece.length ≤ 2048) (hsp : Txt.split (buf ++ piece) (Str.ofString "\n") = lns.map (·.1) ++ [bf]) (hok : ∀ l ∈ lns, LineOk lean l) (hbare : ∀ x ∈ s.gens, x.bare = true)
   (hret : ∀ h' gens' tk' nl a, base.StaysIn h' → h'.FunFrames base outer → (∀ b ∈ frs outer, ∀ m, s.heap.Ns b m → h'.Ns b m) → h'.get? R = some (instObj 273 D) → IsRd w.params way bf h' D → (∀ p ∈ nl, h'.get? p.1 = some p.2 ∧ base.get? p.1 = none ∧ p.1 ∉ R :: D :: frs outer) →
     DatIn nl (.ref a) (.list (toldL (evsL way lean lns))) → (∀ x ∈ gens', x.bare = true) → Rr (.ok (.ret (.ref a))) { s with heap := h', gens := gens', toks := tk' }) :
   codeAny (model prog w) A (.call (.ref 343) ⟨[.ref R, .bool lean, .str piece tp], []⟩) Rr s := by
  w_top off
  obtain ⟨hd0, dp, fr0, gd, un⟩ := A
  dsimp only at hh hfr hdp hu
  subst hh hfr
  have hroom : dp < recursionLimit := Nat.lt_of_lt_of_le hdp (by decide)
  have T' := T
  obtain ⟨kk1, tt1, kk2, kk3, tt3, hD⟩ := hD
  k_dflt (refine' enterG hb hsz ?k1 ?k2 (news := (D, dictOf [ent w.params (Str.ofString "errors") kk1 (.str way tt1), ent w.params (Str.ofString "stream") kk2 .none, ent w.params (Str.ofString "buffer") kk3 (.str buf tt3)] 3) :: (R, instObj 273 D) :: restOf base s.heap [D, R]) ?kN ?k6 ?k7 ?k8 ?k9 ?kB ?_ ?c2 ?c3 ?c4 ?c5; (case k1 => assumption); (case k2 => exact Top.nolimit (by assumption)); (case kN => exact rest_news2 hD hR gD gR); (case k6 => k_is); (case k7 => k_is); (case k8 => assumption); (case k9 => exact BindsTo.of_eq rfl); (case c5 => decide); (case kB => exact locs rfl); (case c2 => exact rfl); (case c3 => exact rfl); (case c4 => exact rfl); k_whole)
  intro L h1 F N
  dsimp only
  generalize s.toks + _ = tk0
  replace F : Fr base L h1 (fun y => List.lookup y [(Str.ofString "piece", .str piece tp), (Str.ofString "lean", .bool lean), (Str.ofString "reader", .ref R)]) := F
  have gL : base.get? L = none := none_above F.above
  have sL : s.heap.get? L = none := fresh_of gL hD hR fun q hq => (N q hq).2.1
  have ka1 : s.heap.StaysIn h1 := keepAll_of2 F N hD hR hb
  refine cut (fun s' => ∃ h' tk kd od, s' = { s with heap := h', toks := tk } ∧ Fr base L h' (fun y => if y = Str.ofString "kinds" then some (.ref kd) else List.lookup y [(Str.ofString "piece", .str piece tp), (Str.ofString "lean", .bool lean), (Str.ofString "reader", .ref R)]) ∧
      News base L h' ((kd, od) :: (D, dictOf [ent w.params (Str.ofString "errors") kk1 (.str way tt1), ent w.params (Str.ofString "stream") kk2 .none, ent w.params (Str.ofString "buffer") kk3 (.str buf tt3)] 3) :: (R, instObj 273 D) :: restOf base s.heap [D, R]) ∧
      h'.MapOf (strKind prog w) kd (kindsF lean) ∧ (kd == sysModules) = false ∧ s.heap.get? kd = none) ?_ ?_
  · generalize restOf base s.heap [D, R] = others at N
    have hno : s.heap.get? h1.objs.size = none := none_of_stays ka1 (Heap.get?_none_of_le (Nat.le_refl _))
    cases lean with
    | false =>
      k_steps
      rename Fr _ _ _ _ => F9
      rename News _ _ _ _ => N9
      refine ⟨rfl, _, _, _, _, rfl, F9, N9, ?_, by assumption, hno⟩
      exact mapOf_ff (N9 _ (.head _)).1 (by assumption)
    | true =>
      k_steps
      rename Fr _ _ _ _ => F9
      rename News _ _ _ _ => N9
      refine ⟨rfl, _, _, _, _, rfl, F9, N9, ?_, by assumption, hno⟩
      exact mapOf_tt (N9 _ (.head _)).1 (by assumption)
  rintro s' ⟨h2, tk2, kd, od, rfl, F2, N2, mk, hkm, skd⟩
  clear F N ka1
  have ka2 : s.heap.StaysIn h2 := keepAll_of2 F2 (fun q hq => N2 q (.tail _ hq)) hD hR hb
  refine cut (fun s' => ∃ h' tk got, s' = { s with heap := h', toks := tk } ∧ Fr base L h' (fun y => if y = Str.ofString "got" then some (.ref got) else if y = Str.ofString "kinds" then some (.ref kd) else List.lookup y [(Str.ofString "piece", .str piece tp), (Str.ofString "lean", .bool lean), (Str.ofString "reader", .ref R)]) ∧
      News base L h' ((got, W.listOf #[] 0) :: (kd, od) :: (D, dictOf [ent w.params (Str.ofString "errors") kk1 (.str way tt1), ent w.params (Str.ofString "stream") kk2 .none, ent w.params (Str.ofString "buffer") kk3 (.str buf tt3)] 3) :: (R, instObj 273 D) :: restOf base s.heap [D, R]) ∧ ∀ q ∈ ((kd, od) :: (D, dictOf [ent w.params (Str.ofString "errors") kk1 (.str way tt1), ent w.params (Str.ofString "stream") kk2 .none, ent w.params (Str.ofString "buffer") kk3 (.str buf tt3)] 3) :: (R, instObj 273 D) :: restOf base s.heap [D, R] : List (Addr × Obj)), q.1 ≠ got) ?_ ?_
  · generalize hot : ((kd, od) :: (D, dictOf [ent w.params (Str.ofString "errors") kk1 (.str way tt1), ent w.params (Str.ofString "stream") kk2 .none, ent w.params (Str.ofString "buffer") kk3 (.str buf tt3)] 3) :: (R, instObj 273 D) :: restOf base s.heap [D, R] : List (Addr × Obj)) = others at N2 ⊢
    k_steps
    rename Fr _ _ _ _ => F9
    rename News _ _ _ _ => N9
    have lt9 := (by assumption : ∀ p ∈ others, @LT.lt Nat _ p.1 _)
    exact ⟨rfl, _, _, _, rfl, F9, N9, fun q hq => Nat.ne_of_lt (lt9 q hq)⟩
  rintro s' ⟨h3, tk3, got, rfl, F3, N3, ngot⟩
  refine wpAny_execs_cons ?_
  refine wpAny_Try_except ?_
  refine wpAny_execs_cons ?_
  refine wpAny_For ?_
  have ka3 : s.heap.StaysIn h3 := keepAll_of2 F3 (fun q hq => N3 q (.tail _ (.tail _ hq))) hD hR hb
  generalize hot : restOf base s.heap [D, R] = others at N3
  iterate 10 walk1
  refine wpAny_call ?_
  have hb3 : base.StaysIn h3 := F3.keep
  have ggot : base.get? got = none := (N3 _ (.head _)).2.2
  have sgot : s.heap.get? got = none := fresh_of ggot hD hR fun q hq => ngot q (.tail _ hq)
  have gkd : base.get? kd = none := (N3 _ (.tail _ (.head _))).2.2
  have got3 : h3.get? got = some (W.listOf #[] 0) := (N3 _ (.head _)).1
  have gfr : ∀ b ∈ frs outer, base.get? b = none := frames_none ff
  have frA : ∀ b ∈ frs outer, ∃ o, s.heap.get? b = some o := fun b hb' => (ff.mem hb').2.imp fun o x => x.1
  have nLf : L ∉ frs outer := fun q => by
    obtain ⟨o, e⟩ := frA L q
    rw [sL] at e; cases e
  have ff3 : h3.FunFrames base outer := funFrames_k ff fun b hb' o e => ka3 b o e
  have R3 := ka3 R _ hR
  have D3 := ka3 D _ hD
  have nkdD : kd ≠ D := fun q => by rw [q, hD] at skd; cases skd
  have nkdR : kd ≠ R := fun q => by rw [q, hR] at skd; cases skd
  have nLR : L ≠ R := fun q => by rw [q, hR] at sL; cases sL
  have nLD : L ≠ D := fun q => by rw [q, hD] at sL; cases sL
  have ngR : got ≠ R := fun q => by rw [q, hR] at sgot; cases sgot
  have ngD : got ≠ D := fun q => by rw [q, hD] at sgot; cases sgot
  have ngL : got ≠ L := (N3 _ (.head _)).2.1
  have nkL : kd ≠ L := (N3 _ (.tail _ (.head _))).2.1
  have nkg : kd ≠ got := ngot _ (.head _)
  have ns3 := ns_congr F3.ns tmap_start
  have mk3 : h3.MapOf (strKind prog w) kd (kindsF lean) := by
    have e3 := (N3 _ (.tail _ (.head _))).1
    have e2 := (N2 _ (.head _)).1
    exact mapOf_at mk fun o e => by rw [e2] at e; cases e; exact e3
  refine at_env fun e9 he9 => ?_
  have e9f : e9.frame = some L := by rw [he9]
  have e9k : e9.scope.kind ≠ .module := by rw [he9]; exact (fun (q : ScopeKind.function = ScopeKind.module) => nomatch q)
  have ffE : h3.FunFrames base (e9 :: outer) := ⟨e9k, ⟨L, by
    obtain ⟨o, ho, hd'⟩ := ns_notFields ns3
    exact ⟨o, e9f, gL, ho, hd'⟩⟩, ff3⟩
  have efr : frs (e9 :: outer) = L :: frs outer := by
    show List.filterMap _ _ = _
    rw [List.filterMap_cons, e9f]
  clear F2 N2 mk ka2 hot
  have hevl : (evsL way lean lns).1.length ≤ 5000 := by
    have f := (fact_split (buf ++ piece) (Str.ofString "\n")).2
    rw [hsp, List.length_append, List.length_map, Str.length_append] at f
    have := evsL_len way lean lns
    omega
  generalize hev : evsL way lean lns = ev at *
  refine' next_spec (gc := fun Lg => gcH base (Lg :: R :: D :: L :: got :: frs outer)) (cons := [L, got]) (outer := e9 :: outer) ?hgc X T hb3 ?hs ?hd R3 ⟨_, _, _, _, _, D3⟩ mk3 hkm gR gD nRD nkdD ?nf ?nc ?hc ffE hw hbl hpl hsp hok ?_
  case hgc =>
    intro Lg b q1 q2 q3
    refine gcH_none.mpr ⟨q1, fun q => ?_⟩
    rw [efr] at q3
    simp only [List.mem_cons, List.not_mem_nil, or_false, not_or] at q q2 q3
    rcases q with q | q | q | q | q | q
    · exact q3.1 q
    · exact q3.2.1 q
    · exact q3.2.2.1 q
    · exact q2.1 q
    · exact q2.2 q
    · exact q3.2.2.2.2 q
  case hs => exact Nat.le_of_lt (Nat.lt_of_le_of_lt F3.above F3.ns.lt)
  case hd => show dp + 1 < 800; omega
  case nf =>
    intro b hb' q
    simp only [List.mem_cons, List.not_mem_nil, or_false] at hb'
    rw [efr] at q
    rcases List.mem_cons.mp q with q | q
    · rcases hb' with rfl | rfl | rfl
      · exact nLR q.symm
      · exact nLD q.symm
      · exact nkL q
    · rcases hb' with rfl | rfl | rfl
      · exact nf _ (by simp) q
      · exact nf _ (by simp) q
      · obtain ⟨o, e⟩ := frA _ q
        rw [skd] at e; cases e
  case nc =>
    intro b hb' q
    simp only [List.mem_cons, List.not_mem_nil, or_false] at hb' q
    rcases hb' with rfl | rfl | rfl <;> rcases q with q | q
    · exact nLR q.symm
    · exact ngR q.symm
    · exact nLD q.symm
    · exact ngD q.symm
    · exact nkL q
    · exact nkg q
  case hc =>
    intro b q
    simp only [List.mem_cons, List.not_mem_nil, or_false] at q
    rcases q with rfl | rfl
    · obtain ⟨o, _, _, e, _⟩ := ns3
      exact ⟨o, e⟩
    · exact ⟨_, got3⟩
  intro Lg G h4 gs tk4 k4 sLg sG nLG hbr hgen hall hgo
  rw [hev] at hgo
  generalize hgcx : gcH base (Lg :: R :: D :: L :: got :: frs outer) = gc at hgo
  have hgc2 : ∀ b, gc.get? b = none → base.get? b = none ∧ b ∉ Lg :: R :: D :: L :: got :: frs outer := fun b q => gcH_none.mp (hgcx ▸ q)
  have hgc3 : ∀ b, base.get? b = none → b ∉ Lg :: R :: D :: L :: got :: frs outer → gc.get? b = none := fun b q q2 => hgcx ▸ gcH_none.mpr ⟨q, q2⟩
  clear hgcx
  dsimp only
  refine wpAny_pyIter_gen hgen ?_
  rw [← he9]
  have okA : OkA ((⟨none, dp, some outer, gd, un⟩ : Around).deeper e9).in1 (e9 :: outer) 690 := ⟨rfl, rfl, by show dp + 1 < 690; omega, by show un + 3 + 1 < 10 * 690; omega⟩
  refine codeAny_forLoop (fun n s' => n ≤ ev.1.length ∧ TSt w.params base gc e9 outer L R D kd got lean piece tp s ((ev.1.take (ev.1.length - n)).map showD) s' ∧ s'.heap.IsGen G s.gens.size ∧
    ∃ gs, s'.gens[s.gens.size]? = some gs ∧ ∀ s2, s2.heap = s'.heap → gs.Goes (model prog w) ((⟨none, dp, some outer, gd, un⟩ : Around).deeper e9).in1 (endR w.params base Lg D (e9 :: outer) way bf ev.2) (protY w.params gc base Lg D (e9 :: outer) [L, got] way bf ev.1) n (.send .none) s2) ?turn ev.1.length ?init
  case init =>
    refine ⟨Nat.le_refl _, ⟨rfl, ⟨none, ns3.keeps k4⟩, fun b o e => k4 b o (hb3 b o e), funFrames_k ffE fun b _ o e => k4 b o e, fun b hb' m hm => (hm.keeps ka3).keeps k4, k4 R _ R3, ⟨[], 0, [], k4 got _ got3, ?_, fun p hp => nomatch hp⟩, ?_⟩, hgen, gs, Array.getElem?_push_size .., fun s2 e => hgo _ s2 okA e⟩
    · rw [Nat.sub_self]; exact .nil
    · intro x hx
      rcases Array.mem_push.mp hx with q | q
      · exact hbare x q
      · exact q ▸ hbr
  have nog : got ∉ Lg :: D :: frs (e9 :: outer) := fun q => by
    rw [efr] at q
    simp only [List.mem_cons] at q
    rcases q with q | q | q | q
    · rw [← q] at sLg; rw [show h3.get? got = _ from got3] at sLg; cases sLg
    · exact ngD q
    · exact ngL q
    · obtain ⟨o, e⟩ := frA _ q
      rw [sgot] at e; cases e
  have noR : R ∉ Lg :: D :: frs (e9 :: outer) := fun q => by
    rw [efr] at q
    simp only [List.mem_cons] at q
    rcases q with q | q | q | q
    · rw [← q] at sLg; rw [show h3.get? R = _ from R3] at sLg; cases sLg
    · exact nRD q
    · exact nLR q.symm
    · exact nf _ (by simp) q
  case turn =>
    intro n s' hI
    obtain ⟨hn, ts, hg, gs', hgs, hgo'⟩ := hI
    refine pyNext_own rfl (T.nolimit.keeps ts.st) (by show dp + 1 < recursionLimit; exact Nat.lt_of_lt_of_le (by omega : dp + 1 < 601) (by decide)) hg hgs (hgo' _ rfl) ?hY ?hR
    case hY =>
      intro v s1 gs2 hbr2 hy
      obtain ⟨⟨r, hr1, hm⟩, hsame, gk, hrd, hLg, hkap⟩ := hy
      obtain ⟨om, hns⟩ := ts.ns
      have nsL1 := gk.ns L (by rw [efr]; exact .head _) _ hns
      obtain ⟨items, cnt, nl, hgot, hda, hnl⟩ := ts.got
      have off : ∀ b, b ∉ Lg :: R :: D :: L :: got :: frs outer → b ∉ Lg :: D :: frs (e9 :: outer) := fun b q z => by
        rw [efr] at z
        simp only [List.mem_cons, not_or] at q z
        rcases z with z | z | z | z
        · exact q.1 z
        · exact q.2.2.1 z
        · exact q.2.2.2.1 z
        · exact q.2.2.2.2.2 z
      have got1 : s1.heap.get? got = some (W.listOf items.toArray cnt) := gk.keep got _ nog (.inl fun vs q => by cases q) hgot
      have nl1 : ∀ p ∈ nl, s1.heap.get? p.1 = some p.2 := fun p hp => gk.keep p.1 _ (off _ (hgc2 _ (hnl p hp).2.1).2) (.inl (hnl p hp).2.2) (hnl p hp).1
      have R1 : s1.heap.get? R = some (instObj 273 D) := gk.keep R _ noR (.inl fun vs q => by cases q) ts.rd
      have ca1 : ∀ b ∈ [L, got], ∃ o, s1.heap.get? b = some o := fun b hb' => by
        rcases List.mem_cons.mp hb' with q | q
        · obtain ⟨o, _, _, e, _⟩ := nsL1
          exact ⟨o, q ▸ e⟩
        · exact ⟨_, List.mem_singleton.mp q ▸ got1⟩
      cases n with
      | zero => exact (hkap s1 ⟨.refl, gk.st, gk.ff, ca1⟩).elim
      | succ n =>
        dsimp only
        rw [he9]
        refine wpAny_assign_Name (wpAny_storeName_local rfl nsL1 fun h2 hn2 hs2 => ?_)
        have ns2 := ns_congr hn2 tmap_msg
        have st2 : base.StaysIn h2 := stays_set gk.st gL hs2
        have F5 : Fr base L h2 _ := ⟨ns2, st2, F3.above⟩
        have got2 : h2.get? got = some (W.listOf items.toArray cnt) := (hs2.2 got ngL).trans got1
        have hm2 : MsgAt w.params gc h2 r v := hm.keeps fun b o q e => (hs2.2 b fun z => (hgc2 b q).2 (by rw [z]; simp)).trans e
        have N5 : News base L h2 ((got, W.listOf items.toArray cnt) :: []) := fun q hq => by
          rw [List.mem_singleton.mp hq]
          exact ⟨got2, ngL, ggot⟩
        clear hn2
        have hitl : items.toArray.size ≤ sizeLine := by
          rw [List.size_toArray, hda.length, List.length_map, List.length_take, sizeLine_eq]
          omega
        refine' wpAny_mono (show wpAny _ _ _ (Nxt fun s3 => ∃ h7 tk7 a nl6, s3 = { s1.setGen s.gens.size gs2 with heap := h7, toks := tk7 } ∧ Fr base L h7 (tmap R kd got lean piece tp (some v)) ∧ KeepBut [L, got] s1.heap h7 ∧ h7.get? got = some (W.listOf (items ++ [Value.ref a]).toArray (cnt + 1)) ∧ (∀ p ∈ nl6, h7.get? p.1 = some p.2 ∧ gc.get? p.1 = none ∧ ∀ vs, p.2.data ≠ .fields vs) ∧ DatIn nl6 (.ref a) (showD r)) (fun _ _ => False) _ from ?h9) ?h8 (fun _ _ x => x.elim)
        case h8 =>
          rintro f s3 ⟨rfl, h7, tk7, a, nl6, rfl, F7, kb7, got7, hnl7, hd7⟩
          have nfr : ∀ b ∈ frs outer, b ∉ [L, got] := fun b hb' z => by
            rcases List.mem_cons.mp z with z | z
            · exact nLf (z ▸ hb')
            · exact nog (by rw [efr]; exact .tail _ (.tail _ (.tail _ (List.mem_singleton.mp z ▸ hb'))))
          have ff7 : h7.FunFrames base (e9 :: outer) := funFrames_keepBut gk.ff e9f F7.ns fun b hb' o e => kb7 b o (nfr b hb') e
          have ck7 : CKeep base [L, got] (e9 :: outer) s1.heap h7 := ⟨kb7, F7.keep, ff7, fun b hb' => by
            rcases List.mem_cons.mp hb' with z | z
            · obtain ⟨o, _, _, e, _⟩ := F7.ns
              exact ⟨o, z ▸ e⟩
            · exact ⟨_, List.mem_singleton.mp z ▸ got7⟩⟩
          rw [← he9]
          have nGx : ∀ b ∈ R :: D :: frs (e9 :: outer), G ≠ b := fun b hb' q => by
            have al : ∃ o, h3.get? b = some o := by
              rw [efr] at hb'
              simp only [List.mem_cons] at hb'
              rcases hb' with rfl | rfl | rfl | q
              · exact ⟨_, R3⟩
              · exact ⟨_, D3⟩
              · obtain ⟨o, _, _, e, _⟩ := ns3
                exact ⟨o, e⟩
              · exact (ff3.mem q).2.imp fun o x => x.1
            obtain ⟨o, e⟩ := al
            rw [← q] at e
            rw [show h3.get? G = none from sG] at e; cases e
          have nGo : G ∉ Lg :: D :: frs (e9 :: outer) := fun z => by
            rcases List.mem_cons.mp z with z | z
            · exact nLG z.symm
            · exact nGx _ (.tail _ z) rfl
          have nGl : G ∉ [L, got] := fun z => by
            rcases List.mem_cons.mp z with z | z
            · exact nGx L (.tail _ (.tail _ (by rw [efr]; exact .head _))) z
            · rw [List.mem_singleton.mp z] at sG
              rw [show h3.get? got = _ from got3] at sG; cases sG
          obtain ⟨tkx, e1⟩ := hsame
          have hdr : s1.drawn = s.drawn := by rw [e1]; show s'.drawn = _; rw [ts.same]
          have hos : s1.os = s.os := by rw [e1]; show s'.os = _; rw [ts.same]
          have hge : s1.gens = (s'.setGen s.gens.size .running).gens := by rw [e1]
          obtain ⟨og, nm, qn, hog, hoc, hodat, hosl⟩ := hg
          refine ⟨n, Nat.lt_succ_self n, Nat.le_of_succ_le hn, ⟨?_, ⟨some v, F7.ns⟩, F7.keep, ff7, ?_, ?_, ⟨items ++ [.ref a], cnt + 1, nl6 ++ nl, got7, ?_, ?_⟩, ?_⟩, ?_, gs2, ?_, fun s2 e => ?_⟩
          · show (⟨h7, _, s1.drawn, tk7, s1.os⟩ : Shared) = ⟨h7, _, s.drawn, tk7, s.os⟩
            rw [hdr, hos]
          · intro b hb' m hm'
            obtain ⟨o, es, ep, e, q⟩ := gk.ns b (by rw [efr]; exact .tail _ hb') m (ts.fn b hb' m hm')
            exact ⟨o, es, ep, kb7 b o (nfr b hb') e, q⟩
          · refine kb7 R _ (fun z => ?_) R1
            rcases List.mem_cons.mp z with z | z
            · exact nLR z.symm
            · exact ngR (List.mem_singleton.mp z).symm
          · have e2 : ev.1.take (ev.1.length - n) = ev.1.take (ev.1.length - (n + 1)) ++ [r] := by
              rw [show ev.1.length - n = (ev.1.length - (n + 1)) + 1 from by omega, List.take_add_one]
              rw [show ev.1[ev.1.length - (n + 1)]? = some r from hr1]
              rfl
            rw [e2, List.map_append]
            exact (hda.mono fun p hp => List.mem_append_right _ hp).append (.cons (hd7.mono fun p hp => List.mem_append_left _ hp) .nil)
          · intro p hp
            rcases List.mem_append.mp hp with hp | hp
            · exact hnl7 p hp
            · obtain ⟨x1, x2, x3⟩ := hnl p hp
              refine ⟨kb7 _ _ (fun z => (hgc2 _ x2).2 ?_) (nl1 p hp), x2, x3⟩
              simp only [List.mem_cons, List.not_mem_nil, or_false] at z ⊢
              rcases z with z | z <;> simp [z]
          · exact bare_set (by rw [hge]; exact bare_set ts.bare rfl) hbr2
          · exact ⟨og, nm, qn, kb7 _ _ nGl (gk.keep G _ nGo (.inr hoc) hog), hoc, hodat, hosl⟩
          · exact setGen_self (gs := .running) (by rw [hge]; exact setGen_self hgs)
          · exact hkap s2 (by rw [e]; exact ck7)
        refine wpAny_execs_cons ?_
        iterate 13 walk1
        clear N5
        refine wpAny_call ?_
        have hgn : ∀ a, h2.get? a = none → gc.get? a = none := fun a q => hgc3 a (by
            cases z : base.get? a with
            | none => rfl
            | some o => rw [st2 a o z] at q; cases q) fun z => by
          have al : ∃ o, h2.get? a = some o := by
            simp only [List.mem_cons] at z
            rcases z with rfl | rfl | rfl | rfl | rfl | z
            · obtain ⟨o, e⟩ := hLg
              exact ⟨o, (hs2.2 _ (fun z => by rw [z] at sLg; obtain ⟨o', _, _, e', _⟩ := ns3; rw [show h3.get? L = _ from e'] at sLg; cases sLg)).trans e⟩
            · exact ⟨_, (hs2.2 _ (Ne.symm nLR)).trans R1⟩
            · obtain ⟨_, _, _, _, _, e⟩ := hrd
              exact ⟨_, (hs2.2 _ (Ne.symm nLD)).trans e⟩
            · obtain ⟨o, _, _, e, _⟩ := ns2
              exact ⟨o, e⟩
            · exact ⟨_, got2⟩
            · obtain ⟨_, o, e, _⟩ := gk.ff.2.2.mem z
              exact ⟨o, (hs2.2 _ (fun z' => nLf (by rw [show L = a from z'.symm]; exact z))).trans e⟩
          obtain ⟨o, e⟩ := al
          rw [e] at q; cases q
        refine' show_spec (g := gc) (r := r) (X.keeps st2) (T.keeps st2) rfl rfl (by show dp + 1 < 800; omega) (by show un + 3 < 8000; omega) hgn hm2 ?_
        intro h6 tk6 nl6 a k6 hnl6 hd6
        dsimp only at k6 ⊢
        have st6 : base.StaysIn h6 := fun b o e => k6 b o (st2 b o e)
        have F6 : Fr base L h6 _ := ⟨ns2.keeps k6, st6, F3.above⟩
        have N6 : News base L h6 ((got, W.listOf items.toArray cnt) :: restOf base h6 [L, got]) := fun q hq => by
          rcases List.mem_cons.mp hq with rfl | hq
          · exact ⟨k6 _ _ got2, ngL, ggot⟩
          · exact rest_news (.head _) q hq
        have ne6 : ∀ q ∈ restOf base h6 [L, got], q.1 ≠ got := fun q hq e => rest_ne q hq (by rw [e]; simp)
        have sp6 : ∀ q ∈ restOf base h6 [L, got], q ∈ restOf base h6 [L, got] := fun _ h => h
        generalize hro : restOf base h6 [L, got] = oth6 at N6 ne6 sp6
        clear F5
        k_steps
        rename Fr _ _ _ _ => F9
        rename News _ _ _ _ => N9
        have kb9 := keepBut_of (sk := [L, got]) F9 N9 (fun q hq => .tail _ (sp6 q (hro ▸ hq))) st6
        refine ⟨rfl, _, _, a, nl6, rfl, F9, ?_, ?_, ?_, hd6⟩
        · intro b o n e
          exact kb9 b o n (k6 b o ((hs2.2 b fun z => n (by rw [show b = L from z]; exact .head _)).trans e))
        · rw [← List.push_toArray]
          exact (N9 _ (.head _)).1
        · intro p hp
          obtain ⟨x1, x2, x3⟩ := hnl6 p hp
          refine ⟨kb9 _ _ (fun z => (hgc2 _ x2).2 ?_) x1, x2, x3⟩
          simp only [List.mem_cons, List.not_mem_nil, or_false] at z ⊢
          rcases z with z | z <;> simp [z]
    case hR =>
      intro r s1 hr
      obtain ⟨hn0, hsame, gk, hrd, hfin⟩ := hr
      subst hn0
      obtain ⟨om, hns⟩ := ts.ns
      have nsL1 := gk.ns L (by rw [efr]; exact .head _) _ hns
      obtain ⟨items, cnt, nl, hgot, hda, hnl⟩ := ts.got
      rw [Nat.sub_zero, List.take_length] at hda
      have off : ∀ b, b ∉ Lg :: R :: D :: L :: got :: frs outer → b ∉ Lg :: D :: frs (e9 :: outer) := fun b q z => by
        rw [efr] at z
        simp only [List.mem_cons, not_or] at q z
        rcases z with z | z | z | z
        · exact q.1 z
        · exact q.2.2.1 z
        · exact q.2.2.2.1 z
        · exact q.2.2.2.2.2 z
      have got1 : s1.heap.get? got = some (W.listOf items.toArray cnt) := gk.keep got _ nog (.inl fun vs q => by cases q) hgot
      have nl1 : ∀ p ∈ nl, s1.heap.get? p.1 = some p.2 := fun p hp => gk.keep p.1 _ (off _ (hgc2 _ (hnl p hp).2.1).2) (.inl (hnl p hp).2.2) (hnl p hp).1
      have R1 : s1.heap.get? R = some (instObj 273 D) := gk.keep R _ noR (.inl fun vs q => by cases q) ts.rd
      have fn1 : ∀ b ∈ frs outer, ∀ m, s.heap.Ns b m → s1.heap.Ns b m := fun b hb' m hm' => gk.ns b (by rw [efr]; exact .tail _ hb') m (ts.fn b hb' m hm')
      obtain ⟨tkx, e1⟩ := hsame
      have hdr : s1.drawn = s.drawn := by rw [e1]; show s'.drawn = _; rw [ts.same]
      have hos : s1.os = s.os := by rw [e1]; show s'.os = _; rw [ts.same]
      have hge : s1.gens = (s'.setGen s.gens.size .running).gens := by rw [e1]
      have bare9 : ∀ x ∈ (s1.setGen s.gens.size .finished).gens, x.bare = true := bare_set (by rw [hge]; exact bare_set ts.bare rfl) rfl
      have nfr : ∀ b ∈ frs outer, b ∉ [L, got] := fun b hb' z => by
        rcases List.mem_cons.mp z with z | z
        · exact nLf (z ▸ hb')
        · exact nog (by rw [efr]; exact .tail _ (.tail _ (.tail _ (List.mem_singleton.mp z ▸ hb'))))
      have ngf : got ∉ R :: D :: frs outer := fun z => by
        rcases List.mem_cons.mp z with z | z
        · exact ngR z
        rcases List.mem_cons.mp z with z | z
        · exact ngD z
        · exact nfr _ z (.tail _ (.head _))
      have nlf : ∀ p ∈ nl, base.get? p.1 = none ∧ p.1 ∉ R :: D :: frs outer ∧ p.1 ∉ [L, got] := fun p hp => by
        obtain ⟨x1, x2⟩ := hgc2 _ (hnl p hp).2.1
        simp only [List.mem_cons, not_or, List.not_mem_nil, or_false] at x2 ⊢
        exact ⟨x1, ⟨x2.2.1, x2.2.2.1, x2.2.2.2.2.2⟩, x2.2.2.2.1, x2.2.2.2.2.1⟩
      cases hf9 : ev.2 with
      | none =>
        rw [hf9] at hfin
        refine .inl ⟨hfin, fun h' k' => ?_⟩
        dsimp only
        refine wpAny_execs_nil ?_
        dsimp only
        refine wpAny_execs_nil (wpAny_execs_nil ?_)
        rw [he9]
        refine wpAny_execs_cons (wpAny_Return_some (wpAny_Name (wpAny_loadName_local rfl rfl (nsL1.keeps k') (by rfl) ?_) (by decide)))
        dsimp only
        show Rr _ (⟨h', _, s1.drawn, _, s1.os⟩ : Shared)
        rw [hdr, hos]
        refine hret h' _ _ ((got, W.listOf items.toArray cnt) :: nl) got (fun b o e => k' b o (gk.st b o e)) (funFrames_k gk.ff.2.2 fun b _ o e => k' b o e) (fun b hb' m hm' => (fn1 b hb' m hm').keeps k') (k' _ _ R1) (isRd_at hrd fun o e => k' _ _ e) ?_ ?_ bare9
        · intro p hp
          rcases List.mem_cons.mp hp with rfl | hp
          · exact ⟨k' _ _ got1, ggot, ngf⟩
          · exact ⟨k' _ _ (nl1 p hp), (nlf p hp).1, (nlf p hp).2.1⟩
        · refine .list (.head _) ?_
          unfold toldL
          rw [hf9, List.append_nil]
          exact hda.mono fun p hp => .tail _ hp
      | some C =>
        rw [hf9] at hfin
        obtain ⟨e, a0, rfl, hfl⟩ := hfin
        have hC : C = 64 ∨ C = 77 ∨ C = 89 := evsL_fin (by rw [hev]; exact hf9)
        obtain ⟨T9, sky0, gT, ⟨oT, hoT, hdT⟩, ⟨oe, hoe, hde⟩⟩ := Sky.start hfl e9f nsL1
        obtain ⟨oe', he', hcx⟩ := hfl.there
        have ge := hfl.2.1
        have nGo : G ∉ Lg :: D :: frs (e9 :: outer) := fun z => by
          rcases List.mem_cons.mp z with z | z
          · exact nLG z.symm
          · have al : ∃ o, h3.get? G = some o := by
              rw [efr] at z
              simp only [List.mem_cons] at z
              rcases z with z | z | z
              · exact ⟨_, z ▸ D3⟩
              · obtain ⟨o, _, _, e, _⟩ := ns3
                exact ⟨o, z ▸ e⟩
              · exact (ff3.mem z).2.imp fun o x => x.1
            obtain ⟨o, e⟩ := al
            rw [show h3.get? G = none from sG] at e; cases e
        obtain ⟨og, nm, qn, hog, hoc, hodat, hosl⟩ := hg
        refine .inr ⟨e, C, rfl, own_exc (X.keeps gk.st) hC he' hcx, ⟨og, nm, qn, gk.keep G _ nGo (.inr hoc) hog, hoc, hodat, hosl⟩, ?_⟩
        have gfrL : ∀ b ∈ L :: frs outer, base.get? b = none := fun b hb' => by
          rcases List.mem_cons.mp hb' with z | z
          · exact z ▸ gL
          · exact gfr b z
        show wpAny _ _ (noteFrame (.ref e) e9) _ _ _
        refine wpAny_looks_onW rfl e9f sky0.fly fun h12 held2 u2 => ?_
        have sky2 := sky0.upH held2 u2
        dsimp only
        refine cameBack_at e9f sky2.held fun h13 held3 u3 => ?_
        have sky3 := sky2.upH held3 u3
        refine wpAny_noteFrame_againW e9f sky3.tr (wpAny_landsW sky3.held fun h14 f4 u4 => ?_)
        have sky4 := sky3.upF f4 u4
        dsimp only
        clear sky2 sky3 held2 u2 held3 u3 f4 u4
        have st4 : base.StaysIn h14 := sky4.down gk.st gfrL ge gT
        have F14 : Fr base L h14 _ := ⟨sky4.nsL, st4, F3.above⟩
        obtain ⟨oe4, hoe4, hoec4⟩ := sky4.fly.there
        rw [he9]
        obtain ⟨nm1, q1, N1, bs1, bm1, hdct1, sn1, sub1, ab1, col1, dd1, k01, k11, k21, k31, k51, newId1, K1, B1, C1⟩ := own_cls (P := w.params) hC
        obtain ⟨nm2, q2, N2, bs2, bm2, hdct2, sn2, sub2, ab2, col2, dd2, k02, k12, k22, k32, k52, newId2, K2, B2, C2⟩ := own_cls (P := w.params) (C := 89) (.inr (.inr rfl))
        obtain ⟨nm3, q3, N3', bs3, bm3, hdct3, sn3, sub3, ab3, col3, dd3, k03, k13, k23, k33, k53, newId3, K3, B3, C3⟩ := own_cls (P := w.params) (C := 77) (.inr (.inl rfl))
        obtain ⟨nm4, q4, N4, bs4, bm4, hdct4, sn4, sub4, ab4, col4, dd4, k04, k14, k24, k34, k54, newId4, K4, B4, C4⟩ := own_cls (P := w.params) (C := 64) (.inl rfl)
        have hc1 := st4 _ _ (X _ _ K1)
        have hc2 := st4 _ _ (X _ _ K2)
        have hc3 := st4 _ _ (X _ _ K3)
        have hc4 := st4 _ _ (X _ _ K4)
        clear K1 K2 K3 K4
        have ngL2 : got ∉ L :: frs outer := fun z => by
          rcases List.mem_cons.mp z with z | z
          · exact ngL z
          · exact nfr _ z (.tail _ (.head _))
        have nR2 : R ∉ L :: frs outer := fun z => by
          rcases List.mem_cons.mp z with z | z
          · exact nLR z.symm
          · exact nf _ (by simp) z
        have nD2 : D ∉ L :: frs outer := fun z => by
          rcases List.mem_cons.mp z with z | z
          · exact nLD z.symm
          · exact nf _ (by simp) z
        have hitl : items.toArray.size ≤ sizeLine := by
          rw [List.size_toArray, hda.length, List.length_map, sizeLine_eq]
          omega
        have gf9 : ∀ b ∈ frs (e9 :: outer), base.get? b = none := by rw [efr]; exact gfrL
        have prep : ∀ h15, Heap.FlyingW (skyB (L :: frs outer) e T9 s1.heap) (e9 :: outer) e (.ref _) a0 h15 → h14.UpToSlots h15 → base.StaysIn h15 ∧ h15.Ns L (tmap R kd got lean piece tp om) ∧ h15.get? got = some (W.listOf items.toArray cnt) ∧ h15.get? R = some (instObj 273 D) ∧
            (∀ p ∈ nl, h15.get? p.1 = some p.2) ∧ IsRd w.params way bf h15 D ∧ h15.FunFrames base outer ∧ ∀ b ∈ frs outer, ∀ m, s.heap.Ns b m → h15.Ns b m := fun h15 f5 u5 => by
          have sky5 := sky4.upF f5 u5
          have st5 : base.StaysIn h15 := sky5.down gk.st gfrL ge gT
          refine ⟨st5, sky5.nsL, sky5.at_ got1 (fun vs q => by cases q) ngL2 hoe hde hoT hdT, sky5.at_ R1 (fun vs q => by cases q) nR2 hoe hde hoT hdT, fun p hp => sky5.at_ (nl1 p hp) (hnl p hp).2.2 (fun z => ?_) hoe hde hoT hdT, ?_, (sky5.ffd gf9).2.2, fun b hb' m hm' => sky5.ns b hb' m (fn1 b hb' m hm')⟩
          · obtain ⟨_, x2, x3⟩ := nlf p hp
            rcases List.mem_cons.mp z with z | z
            · exact x3 (z ▸ .head _)
            · exact x2 (.tail _ (.tail _ z))
          · obtain ⟨k1, t1, k2, k3, t3, q⟩ := hrd
            exact ⟨k1, t1, k2, k3, t3, sky5.at_ q (fun vs q => by cases q) nD2 hoe hde hoT hdT⟩
        have fin : ∀ (h15 h19 : Heap) (l9 : Addr) (tk9 : Nat) (cs : List Value) (d9 : Dat), toldL ev = ev.1.map showD ++ [d9] → (base.StaysIn h15 ∧ h15.Ns L (tmap R kd got lean piece tp om) ∧ h15.get? got = some (W.listOf items.toArray cnt) ∧ h15.get? R = some (instObj 273 D) ∧
            (∀ p ∈ nl, h15.get? p.1 = some p.2) ∧ IsRd w.params way bf h15 D ∧ h15.FunFrames base outer ∧ ∀ b ∈ frs outer, ∀ m, s.heap.Ns b m → h15.Ns b m) → KeepBut [L, got] h15 h19 → base.StaysIn h19 → h19.get? got = some (W.listOf (items.toArray.push (.ref l9)) (cnt + 1)) → h19.get? l9 = some (W.listOf cs.toArray 0) → base.get? l9 = none → h15.get? l9 = none →
            (∀ nl9, (l9, W.listOf cs.toArray 0) ∈ nl9 → DatIn nl9 (.ref l9) d9) → Rr (.ok (.ret (.ref got))) { heap := h19, gens := (s1.setGen s.gens.size .finished).gens, drawn := s1.drawn, toks := tk9, os := s1.os } := by
          intro h15 h19 l9 tk9 cs d9 htl ⟨p1, p2, p3, p4, p5, p6, p7, p8⟩ kb9 st9 g9 e9' gl9 hl9 hdat
          rw [hdr, hos]
          have alv : ∀ b ∈ R :: D :: frs outer, ∃ o, h15.get? b = some o := fun b hb' => by
            rcases List.mem_cons.mp hb' with z | z
            · exact ⟨_, z ▸ p4⟩
            rcases List.mem_cons.mp z with z | z
            · obtain ⟨_, _, _, _, _, q⟩ := p6
              exact ⟨_, z ▸ q⟩
            · exact (p7.mem z).2.imp fun o x => x.1
          refine hret h19 _ _ ((got, W.listOf (items.toArray.push (.ref l9)) (cnt + 1)) :: (l9, W.listOf cs.toArray 0) :: nl) got st9 (funFrames_k p7 fun b hb' o e => kb9 b o (nfr b hb') e) (fun b hb' m hm' => ?_) (kb9 _ _ (fun z => ?_) p4) (isRd_at p6 fun o e => kb9 _ _ (fun z => ?_) e) (fun p hp => ?_) ?_ bare9
          · obtain ⟨o, es, ep, q, r⟩ := p8 b hb' m hm'
            exact ⟨o, es, ep, kb9 b o (nfr b hb') q, r⟩
          · rcases List.mem_cons.mp z with z | z
            · exact nLR z.symm
            · exact ngR (List.mem_singleton.mp z).symm
          · rcases List.mem_cons.mp z with z | z
            · exact nLD z.symm
            · exact ngD (List.mem_singleton.mp z).symm
          · rcases List.mem_cons.mp hp with rfl | hp
            · exact ⟨g9, ggot, ngf⟩
            rcases List.mem_cons.mp hp with rfl | hp
            · refine ⟨e9', gl9, fun z => ?_⟩
              obtain ⟨o, q⟩ := alv _ z
              rw [hl9] at q; cases q
            · exact ⟨kb9 _ _ (nlf p hp).2.2 (p5 p hp), (nlf p hp).1, (nlf p hp).2.1⟩
          · rw [htl]
            refine .list (vs := items ++ [.ref l9]) (by rw [← List.push_toArray]; exact .head _) ?_
            exact (hda.mono fun p hp => .tail _ (.tail _ hp)).append (.cons (hdat _ (.tail _ (.head _))) .nil)
        rcases hC with rfl | rfl | rfl
        · refine clause_miss_own (fun Q' E' q => name_K F14 X (topRead_of T) (by k_is) q) hc1 hc2 hoe4 hoec4 B2 (by rw [C1 89 (.inr (.inr rfl))]; decide) ?_
          refine clause_miss_own (fun Q' E' q => name_K F14 X (topRead_of T) (by k_is) q) hc1 hc3 hoe4 hoec4 B3 (by rw [C1 77 (.inr (.inl rfl))]; decide) ?_
          refine clause_hit_own (fun Q' E' q => name_K F14 X (topRead_of T) (by k_is) q) hc1 hc4 hoe4 hoec4 B4 (by rw [C1 64 (.inl rfl)]; decide) ?_
          clear C1 B1 C2 B2 C3 B3 C4 B4 hc1 hc2 hc3 hc4
          refine lands_againW sky4.fly fun h15 f5 u5 => ?_
          have pr := prep h15 f5 u5
          have F15 : Fr base L h15 _ := ⟨pr.2.1, pr.1, F3.above⟩
          have N15 : News base L h15 ((got, W.listOf items.toArray cnt) :: restOf base h15 [L, got]) := fun q hq => by
            rcases List.mem_cons.mp hq with rfl | hq
            · exact ⟨pr.2.2.1, ngL, ggot⟩
            · exact rest_news (.head _) q hq
          have ne15 : ∀ q ∈ restOf base h15 [L, got], q.1 ≠ got := fun q hq e => rest_ne q hq (by rw [e]; simp)
          generalize hro : restOf base h15 [L, got] = oth5 at N15 ne15
          clear F14
          k_steps
          rename Fr _ _ _ _ => F9
          rename News _ _ _ _ => N9
          rename _ ∧ AllLt _ oth5 => l19
          dsimp only
          have kb9 := keepBut_of (sk := [L, got]) F9 N9 (fun q hq => .tail _ (.tail _ (hro ▸ hq))) pr.1
          have f9 := (N9 _ (.head _)).2
          refine fin h15 _ _ _ _ (kindD 64) (by unfold toldL; rw [hf9]) pr kb9 F9.keep (N9 _ (.tail _ (.head _))).1 (N9 _ (.head _)).1 f9.2 (new_none hro f9.1 f9.2 l19.1 l19.2) fun nl9 hm9 => ?_
          unfold kindD
          rw [if_neg (by decide), if_neg (by decide)]
          exact .list hm9 (.cons (.str _ _) (.cons (.str _ _) (.cons (.str _ _) .nil)))
        · refine clause_miss_own (fun Q' E' q => name_K F14 X (topRead_of T) (by k_is) q) hc1 hc2 hoe4 hoec4 B2 (by rw [C1 89 (.inr (.inr rfl))]; decide) ?_
          refine clause_hit_own (fun Q' E' q => name_K F14 X (topRead_of T) (by k_is) q) hc1 hc3 hoe4 hoec4 B3 (by rw [C1 77 (.inr (.inl rfl))]; decide) ?_
          clear C1 B1 C2 B2 C3 B3 C4 B4 hc1 hc2 hc3 hc4
          refine lands_againW sky4.fly fun h15 f5 u5 => ?_
          have pr := prep h15 f5 u5
          have F15 : Fr base L h15 _ := ⟨pr.2.1, pr.1, F3.above⟩
          have N15 : News base L h15 ((got, W.listOf items.toArray cnt) :: restOf base h15 [L, got]) := fun q hq => by
            rcases List.mem_cons.mp hq with rfl | hq
            · exact ⟨pr.2.2.1, ngL, ggot⟩
            · exact rest_news (.head _) q hq
          have ne15 : ∀ q ∈ restOf base h15 [L, got], q.1 ≠ got := fun q hq e => rest_ne q hq (by rw [e]; simp)
          generalize hro : restOf base h15 [L, got] = oth5 at N15 ne15
          clear F14
          k_steps
          rename Fr _ _ _ _ => F9
          rename News _ _ _ _ => N9
          rename _ ∧ AllLt _ oth5 => l19
          dsimp only
          have kb9 := keepBut_of (sk := [L, got]) F9 N9 (fun q hq => .tail _ (.tail _ (hro ▸ hq))) pr.1
          have f9 := (N9 _ (.head _)).2
          refine fin h15 _ _ _ _ (kindD 77) (by unfold toldL; rw [hf9]) pr kb9 F9.keep (N9 _ (.tail _ (.head _))).1 (N9 _ (.head _)).1 f9.2 (new_none hro f9.1 f9.2 l19.1 l19.2) fun nl9 hm9 => ?_
          unfold kindD
          rw [if_neg (by decide), if_pos rfl]
          exact .list hm9 (.cons (.str _ _) (.cons (.str _ _) (.cons (.str _ _) .nil)))
        · refine clause_hit_own (fun Q' E' q => name_K F14 X (topRead_of T) (by k_is) q) hc1 hc2 hoe4 hoec4 B2 (by rw [C1 89 (.inr (.inr rfl))]; decide) ?_
          clear C1 B1 C2 B2 C3 B3 C4 B4 hc1 hc2 hc3 hc4
          refine lands_againW sky4.fly fun h15 f5 u5 => ?_
          have pr := prep h15 f5 u5
          have F15 : Fr base L h15 _ := ⟨pr.2.1, pr.1, F3.above⟩
          have N15 : News base L h15 ((got, W.listOf items.toArray cnt) :: restOf base h15 [L, got]) := fun q hq => by
            rcases List.mem_cons.mp hq with rfl | hq
            · exact ⟨pr.2.2.1, ngL, ggot⟩
            · exact rest_news (.head _) q hq
          have ne15 : ∀ q ∈ restOf base h15 [L, got], q.1 ≠ got := fun q hq e => rest_ne q hq (by rw [e]; simp)
          generalize hro : restOf base h15 [L, got] = oth5 at N15 ne15
          clear F14
          k_steps
          rename Fr _ _ _ _ => F9
          rename News _ _ _ _ => N9
          rename _ ∧ AllLt _ oth5 => l19
          dsimp only
          have kb9 := keepBut_of (sk := [L, got]) F9 N9 (fun q hq => .tail _ (.tail _ (hro ▸ hq))) pr.1
          have f9 := (N9 _ (.head _)).2
          refine fin h15 _ _ _ _ (kindD 89) (by unfold toldL; rw [hf9]) pr kb9 F9.keep (N9 _ (.tail _ (.head _))).1 (N9 _ (.head _)).1 f9.2 (new_none hro f9.1 f9.2 l19.1 l19.2) fun nl9 hm9 => ?_
          unfold kindD
          rw [if_pos rfl]
          exact .list hm9 (.cons (.str _ _) (.cons (.str _ _) (.cons (.str _ _) .nil)))
end Mine
end
-- Md
section
local macro_rules | `(tactic| walk_at "mine no such step") => `(tactic| skip)
local macro_rules | `(tactic| walk_at "mine no such step") => `(tactic| skip)
local macro_rules | `(tactic| walk_at "mine no such step") => `(tactic| skip)
local macro_rules | `(tactic| walk_at "mine no such step") => `(tactic| skip)
local macro_rules | `(tactic| walk_at "mine no such step") => `(tactic| skip)
local macro_rules | `(tactic| walk_at "mine no such step") => `(tactic| skip)
local macro_rules | `(tactic| walk_at "mine no such step") => `(tactic| skip)
local macro_rules | `(tactic| walk_at "mine no such step") => `(tactic| skip)
local macro_rules | `(tactic| walk_at "mine no such step") => `(tactic| skip)
local macro_rules | `(tactic| walk_at "mine no such step") => `(tactic| skip)
local macro_rules | `(tactic| walk_at "mine no such step") => `(tactic| skip)
local macro_rules | `(tactic| walk_at "mine no such step") => `(tactic| skip)
local macro_rules | `(tactic| walk_at "mine no such step") => `(tactic| skip)
local macro_rules | `(tactic| walk_at "mine no such step") => `(tactic| skip)
local macro_rules | `(tactic| walk_at "mine no such step") => `(tactic| skip)
local macro_rules | `(tactic| walk_at "mine no such step") => `(tactic| skip)
local macro_rules | `(tactic| walk_at "mine no such step") => `(tactic| skip)
local macro_rules | `(tactic| walk_at "mine no such step") => `(tactic| skip)
local macro_rules | `(tactic| walk_at "mine no such step") => `(tactic| skip)
local macro_rules | `(tactic| walk_at "mine no such step") => `(tactic| skip)
local macro_rules | `(tactic| walk_at "mine no such step") => `(tactic| skip)
local macro_rules | `(tactic| walk_at "mine no such step") => `(tactic| skip)
local macro_rules | `(tactic| walk_at "mine no such step") => `(tactic| skip)
local macro_rules | `(tactic| walk_at "mine no such step") => `(tactic| skip)
local macro_rules | `(tactic| walk_at "mine no such step") => `(tactic| skip)
local macro_rules | `(tactic| walk_at "mine no such step") => `(tactic| skip)
local macro_rules | `(tactic| walk_at "mine no such step") => `(tactic| skip)
local macro_rules | `(tactic| walk_at "mine no such step") => `(tactic| skip)
local macro_rules | `(tactic| walk_at "mine no such step") => `(tactic| skip)
local macro_rules | `(tactic| walk_at "mine no such step") => `(tactic| skip)
local macro_rules | `(tactic| walk_at "mine no such step") => `(tactic| skip)
local macro_rules | `(tactic| walk_at "mine no such step") => `(tactic| skip)
local macro_rules | `(tactic| walk_at "mine no such step") => `(tactic| skip)
local macro_rules | `(tactic| walk_at "mine no such step") => `(tactic| skip)
local macro_rules | `(tactic| walk_at "mine no such step") => `(tactic| skip)
local macro_rules | `(tactic| walk_at "mine no such step") => `(tactic| skip)
local macro_rules | `(tactic| walk_at "mine no such step") => `(tactic| skip)
local macro_rules | `(tactic| walk_at "mine no such step") => `(tactic| skip)
local macro_rules | `(tactic| walk_at "mine no such step") => `(tactic| skip)
local macro_rules | `(tactic| walk_at "mine no such step") => `(tactic| skip)
open PySem PySem.W PyProof.Rows
set_option maxRecDepth 100000
set_option linter.all false
namespace Mine
theorem keepAll_of0 {base h h' : Heap} {L : Addr} {m : Str → Option Value} (F : Fr base L h' m) (N : News base L h' (restOf base h [])) (hb : base.StaysIn h) : h.StaysIn h' := fun b o e =>
  keepBut_of F N (fun q hq => hq) hb b o (by simp) e
section
variable {prog : Program} {w : World} {mean : ExcName → Option Value} {mg mb : Str → Option Value} {loose : List Str}
   {A : Around} {outer : List Env} {base : Heap} {s : Shared} {Rr : Result → Shared → Prop}
set_option maxHeartbeats 8000000 in
theorem made_ok {way : Str} {t1 : Tok} (X : (hd.heap_39 w.params).In base) (T : Top hd.view_39 loose mean mg mb base) (hb : base.StaysIn s.heap) (hsz : base.objs.size ≤ s.heap.objs.size) (hdp : A.depth < 600) (hu : A.units < 6000)
   (hh : A.handled = none) (hgd : A.guards = some []) (hfr : A.frames = some outer) (ff : s.heap.FunFrames base outer)
   (hw : way = Str.ofString "raise" ∨ way = Str.ofString "yield" ∨ way = Str.ofString "ignore")
   (hret : ∀ h' tk' t, base.StaysIn h' → h'.FunFrames base outer → (∀ b ∈ frs outer, ∀ m, s.heap.Ns b m → h'.Ns b m) → Rr (.ok (.ret (.str (Str.ofString "made") t))) { s with heap := h', toks := tk' }) :
   codeAny (model prog w) A (.call (.ref 357) ⟨[.str way t1], []⟩) Rr s := by
  w_top off
  obtain ⟨hd0, dp, fr0, gd, un⟩ := A
  dsimp only at hh hfr hdp hu hgd
  subst hh hfr hgd
  have hroom : dp < recursionLimit := Nat.lt_of_lt_of_le hdp (by decide)
  k_dflt (refine' enterG hb hsz ?k1 ?k2 (news := restOf base s.heap []) ?kN ?k6 ?k7 ?k8 ?k9 ?kB ?_ ?c2 ?c3 ?c4 ?c5; (case k1 => assumption); (case k2 => exact Top.nolimit (by assumption)); (case kN => exact fun ⟨a, o⟩ hq => let ⟨_, y, z⟩ := mem_rest.mp hq; ⟨z, y⟩); (case k6 => k_is); (case k7 => k_is); (case k8 => assumption); (case k9 => exact BindsTo.of_eq rfl); (case c5 => decide); (case kB => exact locs rfl); (case c2 => exact rfl); (case c3 => exact rfl); (case c4 => exact rfl); k_whole)
  intro L h1 F N
  dsimp only
  generalize s.toks + _ = tk0
  have ka := keepAll_of0 F N hb
  refine wpAny_execs_cons ?_
  refine wpAny_Try_except ?_
  refine wpAny_execs_cons ?_
  iterate 10 walk1
  refine inst_reader (g0 := h1) (fun _ _ e => e) (X.keeps F.keep) (T.keeps F.keep) rfl ?_ ?_ hw ?_
  · show dp + 1 < 880; omega
  · show un + 3 < 8980; omega
  intro h2 tk2 x d k2 _ _ _ _ _
  replace F := F.keeps k2
  replace N := N.grown k2
  generalize restOf base s.heap [] = others at N
  k_steps
  exact hret _ _ _ F.keep (funFrames_k ff fun b _ o e => k2 b o (ka b o e)) fun b _ m hm => hm.keeps fun b o e => k2 b o (ka b o e)
set_option maxHeartbeats 8000000 in
theorem made_bad {way : Str} {t1 : Tok} (X : (hd.heap_39 w.params).In base) (T : Top hd.view_39 loose mean mg mb base) (hb : base.StaysIn s.heap) (hsz : base.objs.size ≤ s.heap.objs.size) (hdp : A.depth < 600) (hu : A.units < 6000)
   (hh : A.handled = none) (hgd : A.guards = some []) (hfr : A.frames = some outer) (ff : s.heap.FunFrames base outer)
   (hw : way = Str.ofString "skip" ∨ way = Str.ofString "")
   (hret : ∀ h' tk' t, base.StaysIn h' → h'.FunFrames base outer → (∀ b ∈ frs outer, ∀ m, s.heap.Ns b m → h'.Ns b m) → Rr (.ok (.ret (.str (Str.ofString "refused") t))) { s with heap := h', toks := tk' }) :
   codeAny (model prog w) A (.call (.ref 357) ⟨[.str way t1], []⟩) Rr s := by
  w_top off
  obtain ⟨hd0, dp, fr0, gd, un⟩ := A
  dsimp only at hh hfr hdp hu hgd
  subst hh hfr hgd
  have hroom : dp < recursionLimit := Nat.lt_of_lt_of_le hdp (by decide)
  k_dflt (refine' enterG hb hsz ?k1 ?k2 (news := restOf base s.heap []) ?kN ?k6 ?k7 ?k8 ?k9 ?kB ?_ ?c2 ?c3 ?c4 ?c5; (case k1 => assumption); (case k2 => exact Top.nolimit (by assumption)); (case kN => exact fun ⟨a, o⟩ hq => let ⟨_, y, z⟩ := mem_rest.mp hq; ⟨z, y⟩); (case k6 => k_is); (case k7 => k_is); (case k8 => assumption); (case k9 => exact BindsTo.of_eq rfl); (case c5 => decide); (case kB => exact locs rfl); (case c2 => exact rfl); (case c3 => exact rfl); (case c4 => exact rfl); k_whole)
  intro L h1 F N
  dsimp only
  generalize s.toks + _ = tk0
  have ka := keepAll_of0 F N hb
  have gL : base.get? L = none := none_above F.above
  have gfr : ∀ b ∈ frs outer, base.get? b = none := frames_none ff
  refine wpAny_execs_cons ?_
  refine wpAny_Try_except ?_
  refine wpAny_execs_cons ?_
  iterate 10 walk1
  obtain ⟨o1, q1, q2⟩ := ns_notFields F.ns
  refine inst_bad (g0 := h1) (base := hideH (fun b => (L :: frs outer).contains b) h1) (outer := _ :: outer) (fun _ _ e => e) (X.keeps F.keep) (T.keeps F.keep) rfl rfl ?_ ?_ ⟨rfl, hide_stays, ⟨(by intro q; cases q), ⟨L, o1, by rfl, hide_none (by simp), q1, q2⟩, funFrames_base (funFrames_k ff fun b _ o e => ka b o e) fun b hb' => hide_none (by simp [hb'])⟩⟩ hw ?_
  · show dp + 1 < 880; omega
  · show un + 3 < 8980; omega
  intro h2 tk2 e a0 fl u2
  dsimp only
  refine wpAny_looks_onW rfl (by rfl) fl fun h4 held4 u4 => ?_
  dsimp only
  refine wpAny_landsW held4 fun h5 held5 u5 => ?_
  have hbb : base.StaysIn (hideH (fun b => (L :: frs outer).contains b) h1) := stays_hide F.keep fun a ha => by
    simp only [List.contains_iff_mem, List.mem_cons] at ha
    rcases ha with rfl | ha
    · exact gL
    · exact gfr _ ha
  have u15 := (u2.trans u4).trans u5
  have F5 : Fr base L h5 _ := ⟨u15.ns F.ns, fun b o q => held5.1 b o (hbb b o q), F.above⟩
  obtain ⟨ob, hob, hobc⟩ := held5.there
  refine wpAny_handleBy_builtin (X := "ValueError") (T := "ValueError") (b := true) PySem.F.isExc_ValueError PySem.F.notTuple_ValueError (by rw [isSubtype_type]; kernel_rfl) ?_
  walk1
  refine ⟨rfl, ⟨ob, hob, hobc⟩, ?_⟩
  rw [if_pos rfl]
  refine lands_againW held5 fun h6 fl6 u6 => ?_
  have u16 := u15.trans u6
  have F6 : Fr base L h6 _ := ⟨u16.ns F.ns, fun b o q => fl6.1 b o (hbb b o q), F.above⟩
  have ff6 : h6.FunFrames base outer := (funFrames_base fl6.2.2.1 (base' := base) fun b hb' => by
    rcases List.mem_cons.mp (show b ∈ L :: frs outer from hb') with rfl | hb'
    · exact gL
    · exact gfr _ hb').2.2
  have ns6 : ∀ b ∈ frs outer, ∀ m, s.heap.Ns b m → h6.Ns b m := fun b _ m hm => u16.ns (hm.keeps ka)
  clear F F5 N u16 u15 u5 u4 u2 held5 held4 fl fl6 hbb hob q1 q2 u6
  have N6 : News base L h6 [] := fun _ q => nomatch q
  dsimp only
  k_steps

  exact hret _ _ _ F6.keep ff6 ns6
end
end Mine
end
-- Hx
section
open PySem PySem.W PyProof.Rows
set_option linter.unusedVariables false
namespace Mine
def xorL (l : List Int) : Int := l.foldl (fun a c => Builtin.bitXor a c) 0
theorem xorL_codes (x : Str) : xorL (KStt.codes x) = xorFrom 0 x.cps.toList := by
  have h : ∀ (l : List Nat) (r : Int), (l.map (fun (c : Nat) => (c : Int))).foldl (fun a c => Builtin.bitXor a c) r = xorFrom r l := by
    intro l
    induction l with
    | nil => intro r; rfl
    | cons c l ih => intro r; exact ih _
  exact h _ 0
theorem xorL_snoc (l : List Int) (c : Int) : xorL (l ++ [c]) = Builtin.bitXor (xorL l) c := by
  unfold xorL; rw [List.foldl_append]; rfl
theorem hex_step {x : Str} {pre post : List Int} {n : Nat} {v : Int} (hA : ∀ c ∈ x.cps.toList, c < 128) (he : KStt.codes x = pre ++ (n : Int) :: post) (hv : v = xorL pre) (h0 : 0 ≤ v) (h1 : v < 128) :
    v + n - 2 * Builtin.bitAnd v n = xorL (pre ++ [(n : Int)]) ∧ 0 ≤ v + n - 2 * Builtin.bitAnd v n ∧ v + n - 2 * Builtin.bitAnd v n < 128 := by
  have hm : (n : Int) ∈ KStt.codes x := by rw [he]; simp
  have hn : n < 128 := by
    obtain ⟨c, hc, e⟩ := List.mem_map.mp hm
    have := hA c hc
    omega
  rw [← bitXor_and, xorL_snoc, ← hv]
  exact ⟨rfl, bitXor_lt h0 h1 hn⟩
/-- what _law_hex gives -/
def hexT (v : Int) : Str := Str.ofString "*" ++ Txt.item (Str.ofString "0123456789ABCDEF") ((v.fmod 256).fdiv 16) ++ Txt.item (Str.ofString "0123456789ABCDEF") ((v.fmod 256).fmod 16)
set_option maxRecDepth 100000 in
theorem hexT_all : (List.range 256).all (fun r => decide ((hexT (r : Int)).length ≤ 3)) = true := by decide +kernel
theorem hexT_len (v : Int) : (hexT v).length ≤ 3 := by
  have h0 := fmod_lo v (by decide : (0 : Int) < 256)
  have h1 := fmod_hi v (by decide : (0 : Int) < 256)
  have e : hexT v = hexT (v.fmod 256) := by
    have : (v.fmod 256).fmod 256 = v.fmod 256 := by
      rw [Int.fmod_eq_emod_of_nonneg _ (by decide : (0 : Int) ≤ 256), Int.emod_eq_of_lt h0 h1]
    unfold hexT; rw [this]
  rw [e]
  obtain ⟨n, hn⟩ := Int.eq_ofNat_of_zero_le h0
  have := List.all_eq_true.mp hexT_all n (List.mem_range.mpr (by omega))
  rw [hn]
  simpa using this
local macro_rules | `(tactic| walk_at "m_enter") => `(tactic| (refine' enter ?k1 ?k2 ?k6 ?k7 ?k8 ?k9 ?kB ?_ ?c2 ?c3 ?c4 ?c5; (case k1 => assumption); (case k2 => first | assumption | exact Top.nolimit (by assumption)); (case k6 => k_is); (case k7 => k_is); (case k8 => first | assumption | omega | decide); (case k9 => exact BindsTo.of_eq rfl); (case c5 => decide); (case kB => exact locs rfl); (case c2 => exact rfl); (case c3 => exact rfl); (case c4 => exact rfl); k_whole; intro L' h' F' N'; (try dsimp only); (try k_fold)))
set_option maxRecDepth 100000 in
set_option maxHeartbeats 8000000 in
theorem hex_spec {prog : Program} {w : World} {mean : ExcName → Option Value} {mg mb : Str → Option Value} {loose : List Str}
   {A : Around} {outer : List Env} {base : Heap} {s : Shared} {R : Result → Shared → Prop} {x : Str} {t tk : Tok} {k : Int}
   (X : (hd.heap_39 w.params).In s.heap) (T : Top hd.view_39 loose mean mg mb s.heap) (B : Below A base outer s.heap) (hh : A.handled = none) (hdp : A.depth < 900) (hu : A.units < 9000)
   (hx : x.length ≤ 4096) (hA : ∀ c ∈ x.cps.toList, c < 128) (hk0 : 0 ≤ k) (hk1 : k < 256)
   (hret : ∀ h' tk' t', (hexT (xorFrom 0 x.cps.toList + k)).length ≤ 3 → s.heap.StaysIn h' → R (.ok (.ret (.str (hexT (xorFrom 0 x.cps.toList + k)) t'))) { s with heap := h', toks := tk' }) :
   codeAny (model prog w) A (.call (.ref 324) ⟨[.str x t, .int k tk], []⟩) R s := by
  w_top off
  obtain ⟨hd0, dp, fr, gd, un⟩ := A
  obtain rfl : hd0 = none := hh
  have hroom : dp < recursionLimit := Nat.lt_of_lt_of_le hdp (by decide)
  k_dflt walk_at "m_enter"
  k_with "pyIter str" => k_state (fun (pre : List Int) v => v = xorL pre ∧ 0 ≤ v ∧ v < 128) "value"
  k_with "state" => exact hex_step (by assumption) (by assumption) (by assumption) (by assumption) (by assumption)
  k_steps
  rename Fr _ _ _ _ => F9
  rename _ = xorL _ => e9
  rw [xorL_codes] at e9
  subst e9
  exact hret _ _ _ (hexT_len _) F9.keep
end Mine
end
-- Asc
section
local macro_rules | `(tactic| walk_at "mine no such step") => `(tactic| skip)
local macro_rules | `(tactic| walk_at "mine no such step") => `(tactic| skip)
local macro_rules | `(tactic| walk_at "mine no such step") => `(tactic| skip)
local macro_rules | `(tactic| walk_at "mine no such step") => `(tactic| skip)
local macro_rules | `(tactic| walk_at "mine no such step") => `(tactic| skip)
local macro_rules | `(tactic| walk_at "mine no such step") => `(tactic| skip)
local macro_rules | `(tactic| walk_at "mine no such step") => `(tactic| skip)
local macro_rules | `(tactic| walk_at "mine no such step") => `(tactic| skip)
local macro_rules | `(tactic| walk_at "mine no such step") => `(tactic| skip)
local macro_rules | `(tactic| walk_at "mine no such step") => `(tactic| skip)
local macro_rules | `(tactic| walk_at "mine no such step") => `(tactic| skip)
local macro_rules | `(tactic| walk_at "mine no such step") => `(tactic| skip)
local macro_rules | `(tactic| walk_at "mine no such step") => `(tactic| skip)
local macro_rules | `(tactic| walk_at "mine no such step") => `(tactic| skip)
local macro_rules | `(tactic| walk_at "mine no such step") => `(tactic| skip)
local macro_rules | `(tactic| walk_at "mine no such step") => `(tactic| skip)
local macro_rules | `(tactic| walk_at "mine no such step") => `(tactic| skip)
local macro_rules | `(tactic| walk_at "mine no such step") => `(tactic| skip)
local macro_rules | `(tactic| walk_at "mine no such step") => `(tactic| skip)
local macro_rules | `(tactic| walk_at "mine no such step") => `(tactic| skip)
local macro_rules | `(tactic| walk_at "mine no such step") => `(tactic| skip)
local macro_rules | `(tactic| walk_at "mine no such step") => `(tactic| skip)
local macro_rules | `(tactic| walk_at "mine no such step") => `(tactic| skip)
local macro_rules | `(tactic| walk_at "mine no such step") => `(tactic| skip)
local macro_rules | `(tactic| walk_at "mine no such step") => `(tactic| skip)
local macro_rules | `(tactic| walk_at "mine no such step") => `(tactic| skip)
local macro_rules | `(tactic| walk_at "mine no such step") => `(tactic| skip)
local macro_rules | `(tactic| walk_at "mine no such step") => `(tactic| skip)
local macro_rules | `(tactic| walk_at "mine no such step") => `(tactic| skip)
local macro_rules | `(tactic| walk_at "mine no such step") => `(tactic| skip)
local macro_rules | `(tactic| walk_at "mine no such step") => `(tactic| skip)
local macro_rules | `(tactic| walk_at "mine no such step") => `(tactic| skip)
local macro_rules | `(tactic| walk_at "mine no such step") => `(tactic| skip)
local macro_rules | `(tactic| walk_at "mine no such step") => `(tactic| skip)
local macro_rules | `(tactic| walk_at "mine no such step") => `(tactic| skip)
local macro_rules | `(tactic| walk_at "mine no such step") => `(tactic| skip)
local macro_rules | `(tactic| walk_at "mine no such step") => `(tactic| skip)
local macro_rules | `(tactic| walk_at "mine no such step") => `(tactic| skip)
local macro_rules | `(tactic| walk_at "mine no such step") => `(tactic| skip)
local macro_rules | `(tactic| walk_at "mine no such step") => `(tactic| skip)
open PySem PySem.W PyProof.Rows
namespace Mine
/-- ASCII alone -/
def Asc (x : Str) : Prop := ∀ c ∈ x.cps.toList, c < 128
theorem Asc.append {x y : Str} (h : Asc x) (k : Asc y) : Asc (x ++ y) := by
  intro c hc
  have e : (x ++ y).cps.toList = x.cps.toList ++ y.cps.toList := by rw [show (x ++ y).cps = x.cps ++ y.cps from rfl, Array.toList_append]
  rw [e] at hc
  rcases List.mem_append.mp hc with q | q
  · exact h c q
  · exact k c q
theorem asc_lit {x : Str} (h : x.cps.toList.all (· < 128) = true) : Asc x := fun c hc => by simpa using List.all_eq_true.mp h c hc
theorem num_all : (List.range 100).all (fun r => decide ((Str.ofString (toString (r : Int))).length ≤ 2) && (Str.ofString (toString (r : Int))).cps.toList.all (· < 128)) = true := by decide +kernel
theorem num_at {r : Int} (h0 : 0 ≤ r) (h1 : r < 100) : (Str.ofString (toString r)).length ≤ 2 ∧ Asc (Str.ofString (toString r)) := by
  obtain ⟨n, rfl⟩ := Int.eq_ofNat_of_zero_le h0
  have := List.all_eq_true.mp num_all n (List.mem_range.mpr (by omega))
  simp only [Bool.and_eq_true, decide_eq_true_eq] at this
  exact ⟨this.1, asc_lit this.2⟩
theorem len_app {x y : Str} {a b c : Nat} (h : x.length ≤ a) (k : y.length ≤ b) (e : a + b ≤ c) : (x ++ y).length ≤ c := by
  rw [Str.length_append]; omega
end Mine
namespace Mine
theorem len_half {x y : Str} {c : Nat} (h : x.length ≤ c / 2) (k : y.length ≤ c / 2) : (x ++ y).length ≤ c := by
  rw [Str.length_append]; omega
end Mine
end
-- Li
section
open PySem PySem.W PyProof.Rows
set_option linter.unusedVariables false
namespace Mine
local macro_rules | `(tactic| walk_at "m_enter") => `(tactic| (refine' enterC ?k1 ?k2 ?k6 ?k7 ?k8 ?k9 ?kB ?kD ?_ ?c2 ?c3 ?c4; (case k1 => assumption); (case k2 => first | assumption | exact Top.nolimit (by assumption)); (case k6 => k_is); (case k7 => k_is); (case k8 => first | assumption | omega | decide); (case k9 => exact BindsTo.of_eq rfl); (case kB => exact rfl); (case kD => decide +kernel); (case c2 => exact rfl); (case c3 => exact rfl); (case c4 => exact rfl); k_whole; intro L' h' tk' cells' F' N' Y'; k_cells Y'; (try simp only [List.cons_append, List.nil_append] at N'); (try dsimp only); (try k_fold)))
local macro_rules | `(tactic| walk_at "m_use4") => `(tactic| (intro h' tk' t' l9 k9; (have F' := fr_stay (by assumption) k9); (have N' := news_stay (by assumption) k9); clear k9; (try dsimp only)))
local macro_rules | `(tactic| walk_at "m_asc") => `(tactic| first | assumption | exact asc_lit (by decide +kernel) | (refine Asc.append ?_ ?_ <;> walk_at "m_asc"))
local macro_rules | `(tactic| walk_at "m_len") => `(tactic| first | exact Nat.le_trans (by assumption) (by decide) | decide +kernel | (refine len_half ?_ ?_ <;> walk_at "m_len"))
local macro_rules | `(tactic| walk_at "m_dat") => `(tactic| first | exact DatIn.str _ _ | (refine DatIn.list (by k_mem) ?_; walk_at "m_dats"))
local macro_rules | `(tactic| walk_at "m_dats") => `(tactic| first | exact DatAll.nil | (refine DatAll.cons ?_ ?_ <;> first | walk_at "m_dat" | walk_at "m_dats"))
local macro_rules | `(tactic| walk_at "call ref") => `(tactic| (k_here; (with_reducible show wpAny _ _ (PySem.call (Value.ref 324) _ _) _ _ _); (refine wpAny_call ?_); k_dflt (refine' hex_spec ?k1 ?k2 ?k3 ?k4 ?k5 ?k6 ?k7 ?k8 ?k9 ?k10 ?_; (case k1 => k_in); (case k2 => exact Top.keeps (by assumption) (Fr.keep (by assumption))); (case k3 => exact pushX (by assumption) (by assumption) rfl rfl); (case k4 => exact rfl); (case k5 => (simp only [depth_in1, depth_deeper]; omega)); (case k6 => (simp only [units_in1, units_deeper]; omega)); (case k7 => walk_at "m_len"); (case k8 => walk_at "m_asc"); (case k9 => first | omega | decide); (case k10 => first | omega | decide)); walk_at "m_use4"))
def manyS (W : Str) (r : Int) : Str := Txt.join (Str.ofString "") (List.map (fun _ => W) (rangeKs 0 (1 + r.fmod 45 - 0).toNat))
theorem sum_same (W : Str) {k : Nat} (h : W.length ≤ k) : ∀ l : List Int, ((l.map fun _ => W).map (·.length)).sum ≤ l.length * k
  | [] => Nat.zero_le _
  | _ :: r => by
    have ih := sum_same W h r
    simp only [List.map_cons, List.sum_cons, List.length_cons, Nat.succ_mul]
    omega
theorem join_len (W : Str) {k : Nat} (h : W.length ≤ k) (l : List Int) : (Txt.join (Str.ofString "") (l.map fun _ => W)).length ≤ l.length * k := by
  show (Builtin.Str.glued _ _).length ≤ _
  rw [size_glued, show (Str.ofString "").length = 0 from rfl, Nat.mul_zero, Nat.add_zero]
  exact sum_same W h l
theorem manyS_len {W : Str} {r : Int} (h : W.length ≤ 2) : (manyS W r).length ≤ 90 := by
  have hb := fmod_hi r (by decide : (0 : Int) < 45)
  have := join_len W h (rangeKs 0 (1 + r.fmod 45 - 0).toNat)
  rw [rangeKs_length] at this
  unfold manyS
  omega
theorem nxt1N {s₀ : Shared} {h₀ h : Heap} {L : Addr} {m : Str → Option Value} {x : Str} {v : Tok → Value} {t : Tok} {tk : Nat} {news : List (Addr × Obj)} (F : Fr h₀ L h (fun y => if y = x then some (v t) else m y)) (N : News h₀ L h news) :
    Nxt (fun s' => ∃ h' tk' t', s' = { s₀ with heap := h', toks := tk' } ∧ Fr h₀ L h' (fun y => if y = x then some (v t') else m y) ∧ News h₀ L h' news) .next { s₀ with heap := h, toks := tk } :=
  ⟨rfl, h, tk, t, rfl, F, N⟩
@[reducible] def ascOf {x : Str} (_ : Asc x) : Str := x
local macro_rules | `(tactic| walk_at "CompSrc") => `(tactic| (k_here; k_dflt (refine LCg.CompSrc.range (by rfl) (by k_asm) (by k_asm) (by assumption) (by first | decide | exact small_one (by l_bnd) (by l_bnd) (by l_bnd) (by l_bnd)) (by first | exact rangeSize_nat _ _ | rfl) (by first | exact Nat.le_of_ble_eq_true rfl | (rw [PySem.sizeLine_eq]; omega) | size_fits) ?_; intro g'; (have hWa9 := (by assumption : Asc _)); (refine' kct_range (fun _ => ascOf hWa9) (fun k' t' I' oI' C' oC' D' m' ys' h' tk' E' hlo' hhi' hC' hx' F' N' off' ne' => ?_) ?_); (all_goals (try (simp only [LCg.Off3, and_true] at off'))); (all_goals (try ((show KPfMark → _); intro hMark'))); kcf_last)))
local macro_rules | `(tactic| walk_at "KCtEl") => `(tactic| exact ⟨rfl, _, rfl⟩)
local macro_rules | `(tactic| walk_at "call builtin:str.join") => `(tactic| (k_here; (with_reducible show wpAny _ _ (call (Value.builtin "str.join") [Value.str _ _, Value.ref _]) _ _ _); (with_reducible rename CarriedAll _ (List.map _ _) => ktC); (refine KT.join_B 10 (by first | assumption | is_list | exact News.isList (by k_asm) (by k_mem)) ktC (by intro ktA ktM; exact Nat.le_trans (by assumption : Str.length _ ≤ 2) (by decide)) (by first | omega | kt_fact) (by decide) ?_; intro _ _; (generalize hM9 : Txt.join (Str.ofString "") (List.map _ (rangeKs 0 _)) = M9 at *); (have hMl9 : M9.length ≤ 90 := (by rw [← hM9]; exact manyS_len (by assumption))))))
/-- new objects, as they lie in h, none of them in g -/
def Made (g h : Heap) (nl : List (Addr × Obj)) : Prop := ∀ p ∈ nl, h.get? p.1 = some p.2 ∧ g.get? p.1 = none
theorem made_of {g h : Heap} {L : Addr} {nl : List (Addr × Obj)} (N : News g L h nl) : Made g h nl := fun p hp => ⟨(N p hp).1, (N p hp).2.2⟩
def PairIn (nl : List (Addr × Obj)) (v : Value) (x : Str) (d : Dat) : Prop := ∃ D t u, v = .ref D ∧ (D, ({ cls := .type "tuple", data := .seq #[.str x t, u] } : Obj)) ∈ nl ∧ DatIn nl u d
abbrev ds (x : String) : Dat := .str (Str.ofString x)
def sumS (b : Str) (k : Int) : Str := hexT (xorFrom 0 b.cps.toList + k)
/-- the text of one line -/
def lineTx (n : Int) (W tl : Str) : Str :=
  if n.fmod 8 = 0 then Str.ofString "$" ++ (Str.ofString "GPWPL," ++ W ++ Str.ofString ",N") ++ sumS (Str.ofString "GPWPL," ++ W ++ Str.ofString ",N") 0 ++ tl
  else if n.fmod 8 = 1 then Str.ofString "$IITXT,a," ++ manyS W (n.fdiv 8) ++ tl
  else if n.fmod 8 = 2 then Str.ofString "$CCGPQ,WPL" ++ sumS (Str.ofString "CCGPQ,WPL") 0 ++ tl
  else if n.fmod 8 = 3 then Str.ofString "PXYZ" ++ W ++ Str.ofString "," ++ Txt.lower (sumS (Str.ofString "PXYZ" ++ W ++ Str.ofString ",") 0) ++ tl
  else if n.fmod 8 = 4 then Str.ofString "$" ++ (Str.ofString "GPWPL," ++ W) ++ sumS (Str.ofString "GPWPL," ++ W) (1 + (n.fdiv 8).fmod 255) ++ tl
  else if n.fmod 8 = 5 then Str.ofString "$" ++ (Str.ofString "GPZZZ," ++ W) ++ sumS (Str.ofString "GPZZZ," ++ W) 0 ++ tl
  else if n.fmod 8 = 6 then tl
  else Str.ofString "-" ++ W ++ tl
/-- what is due of one line -/
def lineDx (n : Int) (W tl : Str) : Dat :=
  if n.fmod 8 = 0 then .list [ds "WPL", ds "GP", ds "WPL", .list [.str W, ds "N"]]
  else if n.fmod 8 = 1 then .list [ds "TXT", ds "II", ds "TXT", .list [ds "a", .str (manyS W (n.fdiv 8) ++ tl)]]
  else if n.fmod 8 = 2 then .list [ds "question", ds "CC", ds "GP", ds "WPL", .list []]
  else if n.fmod 8 = 3 then .list [ds "maker", ds "XYZ", .list [.str W, ds ""]]
  else if n.fmod 8 = 4 then .list [ds "refused", ds "sum"]
  else if n.fmod 8 = 5 then .list [ds "refused", ds "kind"]
  else .list [ds "refused", ds "no sentence"]
def cr (r : Int) : Str := if r.fmod 2 = 1 then Str.ofString "\r" else Str.ofString ""
set_option maxRecDepth 100000 in
set_option maxHeartbeats 8000000 in
theorem line_spec {prog : Program} {w : World} {mean : ExcName → Option Value} {mg mb : Str → Option Value} {loose : List Str}
   {A : Around} {outer : List Env} {base : Heap} {s : Shared} {R : Result → Shared → Prop} {t : Tok} {n : Int}
   (X : (hd.heap_39 w.params).In s.heap) (T : Top hd.view_39 loose mean mg mb s.heap) (B : Below A base outer s.heap) (hh : A.handled = none) (hdp : A.depth < 800) (hu : A.units < 8000)
   (hret : ∀ h' tk' nl v, s.heap.StaysIn h' → Made s.heap h' nl → PairIn nl v (lineTx n (Str.ofString (toString ((n.fdiv 8).fmod 100))) (cr (n.fdiv 8))) (lineDx n (Str.ofString (toString ((n.fdiv 8).fmod 100))) (cr (n.fdiv 8))) → R (.ok (.ret v)) { s with heap := h', toks := tk' }) :
   codeAny (model prog w) A (.call (.ref 329) ⟨[.int n t], []⟩) R s := by
  w_top off
  obtain ⟨hd0, dp, fr, gd, un⟩ := A
  obtain rfl : hd0 = none := hh
  replace hdp : dp < 800 := hdp
  replace hu : un < 8000 := hu
  have hroom : dp < recursionLimit := Nat.lt_of_lt_of_le hdp (by decide)
  have hfr := B.stack
  dsimp only at hfr
  subst hfr
  k_dflt walk_at "m_enter"
  refine wpAny_execs_cons ?_
  iterate 6 walk1
  refine wpAny_execs_cons ?_
  iterate 6 walk1
  refine wpAny_execs_cons ?_
  iterate 12 walk1
  rename Fr _ _ _ _ => F1
  rename News _ _ _ _ => N1
  generalize hW : Str.ofString (toString ((n.fdiv 8).fmod 100)) = W at *
  have hWn := num_at (fmod_lo (n.fdiv 8) (by decide : (0 : Int) < 100)) (fmod_hi (n.fdiv 8) (by decide : (0 : Int) < 100))
  rw [hW] at hWn
  obtain ⟨hWl, hWa⟩ := hWn
  refine cut_name F1 N1 (Str.ofString "tail") (fun t => .str (cr (n.fdiv 8)) t) ?_ ?_
  · k_steps
    all_goals rename Fr _ _ _ _ => F9
    · exact nxt1N (v := fun t => .str (cr (n.fdiv 8)) t) (by rw [show cr (n.fdiv 8) = Str.ofString "\r" from if_pos (by assumption)]; exact F9) (by assumption)
    · exact nxt1N (v := fun t => .str (cr (n.fdiv 8)) t) (by rw [show cr (n.fdiv 8) = Str.ofString "" from if_neg (by assumption)]; exact F9) (by assumption)
  intro h1 tk1 t1 F1 N1
  have htll : (cr (n.fdiv 8)).length ≤ 1 := by unfold cr; split <;> decide
  generalize hcr : cr (n.fdiv 8) = tl at *
  have hr45a := fmod_lo (n.fdiv 8) (by decide : (0 : Int) < 45)
  have hr45b := fmod_hi (n.fdiv 8) (by decide : (0 : Int) < 45)
  have hr255a := fmod_lo (n.fdiv 8) (by decide : (0 : Int) < 255)
  have hr255b := fmod_hi (n.fdiv 8) (by decide : (0 : Int) < 255)
  refine cut_if F1 N1 (n.fmod 8 ≠ 0) ?_ ?_
  · k_steps
    · rename Fr _ _ _ _ => F9
      rename News _ _ _ _ => N9
      refine NxtR.ret (hret _ _ _ _ F9.keep (made_of N9) ?_)
      unfold lineTx lineDx
      rw [if_pos (by assumption)]
      rw [if_pos (by assumption)]
      refine ⟨_, _, _, rfl, by k_mem, ?_⟩
      walk_at "m_dat"
    · exact NxtR.go ⟨_, _, rfl, by assumption, by assumption, by assumption⟩
  clear F1 N1
  intro h2 tk2 F2 N2 q0
  dsimp only
  refine cut_if F2 N2 (n.fmod 8 ≠ 1) ?_ ?_
  · k_steps
    · rename Fr _ _ _ _ => F9
      rename News _ _ _ _ => N9
      refine NxtR.ret (hret _ _ _ _ F9.keep (made_of N9) ?_)
      unfold lineTx lineDx
      rw [if_neg q0, if_pos (by assumption)]
      rw [if_neg q0, if_pos (by assumption)]
      rename Txt.join _ _ = _ => hM9
      subst hM9
      unfold manyS
      refine ⟨_, _, _, rfl, by k_mem, ?_⟩
      walk_at "m_dat"
    · exact NxtR.go ⟨_, _, rfl, by assumption, by assumption, by assumption⟩
  clear F2 N2
  intro h3 tk3 F3 N3 q1
  dsimp only
  refine cut_if F3 N3 (n.fmod 8 ≠ 2) ?_ ?_
  · k_steps
    · rename Fr _ _ _ _ => F9
      rename News _ _ _ _ => N9
      refine NxtR.ret (hret _ _ _ _ F9.keep (made_of N9) ?_)
      unfold lineTx lineDx
      rw [if_neg q0, if_neg q1, if_pos (by assumption)]
      rw [if_neg q0, if_neg q1, if_pos (by assumption)]
      refine ⟨_, _, _, rfl, by k_mem, ?_⟩
      walk_at "m_dat"
    · exact NxtR.go ⟨_, _, rfl, by assumption, by assumption, by assumption⟩
  clear F3 N3
  intro h4 tk4 F4 N4 q2
  dsimp only
  refine cut_if F4 N4 (n.fmod 8 ≠ 3) ?_ ?_
  · k_steps
    · rename Fr _ _ _ _ => F9
      rename News _ _ _ _ => N9
      refine NxtR.ret (hret _ _ _ _ F9.keep (made_of N9) ?_)
      unfold lineTx lineDx
      rw [if_neg q0, if_neg q1, if_neg q2, if_pos (by assumption)]
      rw [if_neg q0, if_neg q1, if_neg q2, if_pos (by assumption)]
      refine ⟨_, _, _, rfl, by k_mem, ?_⟩
      walk_at "m_dat"
    · exact NxtR.go ⟨_, _, rfl, by assumption, by assumption, by assumption⟩
  clear F4 N4
  intro h5 tk5 F5 N5 q3
  dsimp only
  refine cut_if F5 N5 (n.fmod 8 ≠ 4) ?_ ?_
  · k_steps
    · rename Fr _ _ _ _ => F9
      rename News _ _ _ _ => N9
      refine NxtR.ret (hret _ _ _ _ F9.keep (made_of N9) ?_)
      unfold lineTx lineDx
      rw [if_neg q0, if_neg q1, if_neg q2, if_neg q3, if_pos (by assumption)]
      rw [if_neg q0, if_neg q1, if_neg q2, if_neg q3, if_pos (by assumption)]
      refine ⟨_, _, _, rfl, by k_mem, ?_⟩
      walk_at "m_dat"
    · exact NxtR.go ⟨_, _, rfl, by assumption, by assumption, by assumption⟩
  clear F5 N5
  intro h6 tk6 F6 N6 q4
  dsimp only
  refine cut_if F6 N6 (n.fmod 8 ≠ 5) ?_ ?_
  · k_steps
    · rename Fr _ _ _ _ => F9
      rename News _ _ _ _ => N9
      refine NxtR.ret (hret _ _ _ _ F9.keep (made_of N9) ?_)
      unfold lineTx lineDx
      rw [if_neg q0, if_neg q1, if_neg q2, if_neg q3, if_neg q4, if_pos (by assumption)]
      rw [if_neg q0, if_neg q1, if_neg q2, if_neg q3, if_neg q4, if_pos (by assumption)]
      refine ⟨_, _, _, rfl, by k_mem, ?_⟩
      walk_at "m_dat"
    · exact NxtR.go ⟨_, _, rfl, by assumption, by assumption, by assumption⟩
  clear F6 N6
  intro h7 tk7 F7 N7 q5
  dsimp only
  refine cut_if F7 N7 (n.fmod 8 ≠ 6) ?_ ?_
  · k_steps
    · rename Fr _ _ _ _ => F9
      rename News _ _ _ _ => N9
      refine NxtR.ret (hret _ _ _ _ F9.keep (made_of N9) ?_)
      unfold lineTx lineDx
      rw [if_neg q0, if_neg q1, if_neg q2, if_neg q3, if_neg q4, if_neg q5, if_pos (by assumption)]
      rw [if_neg q0, if_neg q1, if_neg q2, if_neg q3, if_neg q4, if_neg q5]
      refine ⟨_, _, _, rfl, by k_mem, ?_⟩
      walk_at "m_dat"
    · exact NxtR.go ⟨_, _, rfl, by assumption, by assumption, by assumption⟩
  clear F7 N7
  intro h8 tk8 F8 N8 q6
  dsimp only
  k_steps
  rename Fr _ _ _ _ => F9
  rename News _ _ _ _ => N9
  refine hret _ _ _ _ F9.keep (made_of N9) ?_
  unfold lineTx lineDx
  rw [if_neg q0, if_neg q1, if_neg q2, if_neg q3, if_neg q4, if_neg q5, if_neg q6]
  rw [if_neg q0, if_neg q1, if_neg q2, if_neg q3, if_neg q4, if_neg q5]
  refine ⟨_, _, _, rfl, by k_mem, ?_⟩
  walk_at "m_dat"
end Mine
end
-- Du
section
local macro_rules | `(tactic| walk_at "mine no such step") => `(tactic| skip)
local macro_rules | `(tactic| walk_at "mine no such step") => `(tactic| skip)
local macro_rules | `(tactic| walk_at "mine no such step") => `(tactic| skip)
local macro_rules | `(tactic| walk_at "mine no such step") => `(tactic| skip)
local macro_rules | `(tactic| walk_at "mine no such step") => `(tactic| skip)
local macro_rules | `(tactic| walk_at "mine no such step") => `(tactic| skip)
local macro_rules | `(tactic| walk_at "mine no such step") => `(tactic| skip)
local macro_rules | `(tactic| walk_at "mine no such step") => `(tactic| skip)
local macro_rules | `(tactic| walk_at "mine no such step") => `(tactic| skip)
local macro_rules | `(tactic| walk_at "mine no such step") => `(tactic| skip)
local macro_rules | `(tactic| walk_at "mine no such step") => `(tactic| skip)
local macro_rules | `(tactic| walk_at "mine no such step") => `(tactic| skip)
local macro_rules | `(tactic| walk_at "mine no such step") => `(tactic| skip)
local macro_rules | `(tactic| walk_at "mine no such step") => `(tactic| skip)
local macro_rules | `(tactic| walk_at "mine no such step") => `(tactic| skip)
local macro_rules | `(tactic| walk_at "mine no such step") => `(tactic| skip)
local macro_rules | `(tactic| walk_at "mine no such step") => `(tactic| skip)
local macro_rules | `(tactic| walk_at "mine no such step") => `(tactic| skip)
local macro_rules | `(tactic| walk_at "mine no such step") => `(tactic| skip)
local macro_rules | `(tactic| walk_at "mine no such step") => `(tactic| skip)
local macro_rules | `(tactic| walk_at "mine no such step") => `(tactic| skip)
local macro_rules | `(tactic| walk_at "mine no such step") => `(tactic| skip)
local macro_rules | `(tactic| walk_at "mine no such step") => `(tactic| skip)
local macro_rules | `(tactic| walk_at "mine no such step") => `(tactic| skip)
local macro_rules | `(tactic| walk_at "mine no such step") => `(tactic| skip)
local macro_rules | `(tactic| walk_at "mine no such step") => `(tactic| skip)
local macro_rules | `(tactic| walk_at "mine no such step") => `(tactic| skip)
local macro_rules | `(tactic| walk_at "mine no such step") => `(tactic| skip)
local macro_rules | `(tactic| walk_at "mine no such step") => `(tactic| skip)
local macro_rules | `(tactic| walk_at "mine no such step") => `(tactic| skip)
local macro_rules | `(tactic| walk_at "mine no such step") => `(tactic| skip)
local macro_rules | `(tactic| walk_at "mine no such step") => `(tactic| skip)
local macro_rules | `(tactic| walk_at "mine no such step") => `(tactic| skip)
local macro_rules | `(tactic| walk_at "mine no such step") => `(tactic| skip)
local macro_rules | `(tactic| walk_at "mine no such step") => `(tactic| skip)
local macro_rules | `(tactic| walk_at "mine no such step") => `(tactic| skip)
local macro_rules | `(tactic| walk_at "mine no such step") => `(tactic| skip)
local macro_rules | `(tactic| walk_at "mine no such step") => `(tactic| skip)
local macro_rules | `(tactic| walk_at "mine no such step") => `(tactic| skip)
local macro_rules | `(tactic| walk_at "mine no such step") => `(tactic| skip)
open PySem PySem.W PyProof.Rows
set_option maxRecDepth 100000
set_option linter.all false
namespace Mine
abbrev One := Str × List Dat
def oneD (o : One) : Dat := .list (.str o.1 :: o.2)
/-- what is due of lines -/
def dueL (way : Str) : List One → List Dat
  | [] => []
  | o :: r => if o.1 ≠ Str.ofString "refused" ∨ way = Str.ofString "yield" then oneD o :: dueL way r else if way = Str.ofString "raise" then [.list (dsS "raised" :: .str o.1 :: o.2)] else dueL way r
theorem dueL_cons (way : Str) (o : One) (r : List One) : dueL way (o :: r) = if o.1 ≠ Str.ofString "refused" ∨ way = Str.ofString "yield" then oneD o :: dueL way r else if way = Str.ofString "raise" then [.list (dsS "raised" :: .str o.1 :: o.2)] else dueL way r := rfl
abbrev umap (O got : Addr) (way : Str) (tw : Tok) (om : Option Value) : Str → Option Value := fun y =>
  if y = Str.ofString "one" then om else if y = Str.ofString "got" then some (.ref got) else List.lookup y [(Str.ofString "way", .str way tw), (Str.ofString "ones", .ref O)]
theorem umap_one {O got : Addr} {way : Str} {tw : Tok} {om u : Option Value} (y : Str) : (if y = Str.ofString "one" then u else umap O got way tw om y) = umap O got way tw u y := by
  unfold umap
  by_cases q : y = Str.ofString "one"
  · subst q; rw [if_pos rfl, if_pos rfl]
  · rw [if_neg q, if_neg q, if_neg q]
theorem umap_start {O got : Addr} {way : Str} {tw : Tok} (y : Str) : (if y = Str.ofString "got" then some (.ref got) else List.lookup y [(Str.ofString "way", .str way tw), (Str.ofString "ones", .ref O)]) = umap O got way tw none y := by
  unfold umap
  by_cases q : y = Str.ofString "one"
  · subst q; rw [if_neg (by decide), if_pos rfl]; rfl
  · rw [if_neg q]
theorem datAll_len {nl : List (Addr × Obj)} {vs : List Value} {ds : List Dat} (h : DatAll nl vs ds) : vs.length = ds.length := h.length
theorem datAll_at {nl : List (Addr × Obj)} : ∀ {vs : List Value} {ds : List Dat} {i : Nat} {v : Value}, DatAll nl vs ds → vs[i]? = some v → ∃ d, ds[i]? = some d ∧ DatIn nl v d
  | _, _, 0, _, .cons h _, e => by cases e; exact ⟨_, rfl, h⟩
  | _, _, i + 1, _, .cons _ r, e => datAll_at (i := i) r e
theorem datAll_app {nl : List (Addr × Obj)} : ∀ {vs us : List Value} {ds es : List Dat}, DatAll nl vs ds → DatAll nl us es → DatAll nl (vs ++ us) (ds ++ es)
  | _, _, _, _, .nil, h => h
  | _, _, _, _, .cons a r, h => .cons a (datAll_app r h)
theorem one_in {nl : List (Addr × Obj)} {v : Value} {o : One} (h : DatIn nl v (oneD o)) : ∃ a t vs n, v = .ref a ∧ (a, W.listOf (.str o.1 t :: vs).toArray n) ∈ nl ∧ DatAll nl vs o.2 := by
  unfold oneD at h
  cases h with
  | list hm ha =>
    cases ha with
    | cons h1 h2 =>
      cases h1
      exact ⟨_, _, _, _, rfl, hm, h2⟩
theorem fr_ext {base h h3 : Heap} {L I : Addr} {m : Str → Option Value} (F : Fr base L h m) (gI : base.get? I = none) (nIL : I ≠ L) (hs : Heap.ExtBut I h h3) : Fr base L h3 m :=
  ⟨F.ns.at' fun o e => hs _ o (Ne.symm nIL) e, fun b o e => hs b o (fun q => by rw [q, gI] at e; cases e) (F.keep b o e), F.above⟩
theorem news_ext {base h h3 : Heap} {L I : Addr} {nl : List (Addr × Obj)} (N : News base L h nl) (n : ∀ p ∈ nl, p.1 ≠ I) (hs : Heap.ExtBut I h h3) : News base L h3 nl := fun p hp =>
  ⟨hs _ _ (n p hp) (N p hp).1, (N p hp).2⟩
theorem same_ext {h h3 : Heap} {I : Addr} (hs : Heap.SameBut I h h3) : Heap.ExtBut I h h3 := fun b o n e => (hs.2 b n).trans e
local macro_rules | `(tactic| walk_at "call builtin:list.append") => `(tactic| (k_here; (with_reducible show wpAny _ _ (call (Value.builtin _) [Value.ref _, _]) _ _ _); k_dflt (refine' append_K ?k1 ?k2 ?k3 ?_ ?z; (case k1 => k_asm); (case k2 => k_asm); (case k3 => first | exact Upd.head (by assumption) | exact Upd.tail (ne_gt (by assumption)) (Upd.head (by assumption)) | exact Upd.tail (by assumption) (Upd.head (by assumption))); (case z => assumption); k_whole); intro h' F' N'))
local macro_rules | `(tactic| walk_at "m_enter") => `(tactic| (refine' enter ?k1 ?k2 ?k6 ?k7 ?k8 ?k9 ?kB ?_ ?c2 ?c3 ?c4 ?c5; (case k1 => assumption); (case k2 => exact Top.nolimit (by assumption)); (case k6 => k_is); (case k7 => k_is); (case k8 => assumption); (case k9 => exact BindsTo.of_eq rfl); (case c5 => decide); (case kB => exact locs rfl); (case c2 => exact rfl); (case c3 => exact rfl); (case c4 => exact rfl); k_whole))
set_option maxHeartbeats 8000000 in
theorem due_spec {prog : Program} {w : World} {mean : ExcName → Option Value} {mg mb : Str → Option Value} {loose : List Str}
   {A : Around} {outer : List Env} {base : Heap} {s : Shared} {R : Result → Shared → Prop} {tw : Tok} {way : Str} {O : Addr} {os : List Value} {ds : List One} {nl0 : List (Addr × Obj)}
   (X : (hd.heap_39 w.params).In s.heap) (T : Top hd.view_39 loose mean mg mb s.heap) (B : Below A base outer s.heap) (hh : A.handled = none) (hdp : A.depth < 800) (hu : A.units < 8000)
   (hO : s.heap.IsList O os.toArray) (hos : DatAll nl0 os (ds.map oneD)) (hnl : ∀ p ∈ nl0, s.heap.get? p.1 = some p.2) (hlen : os.length ≤ 4096)
   (hvl : ∀ o ∈ ds, o.2.length ≤ 4096)
   (hw : way = Str.ofString "raise" ∨ way = Str.ofString "yield" ∨ way = Str.ofString "ignore")
   (hret : ∀ h' tk' nl got, s.heap.StaysIn h' → Made s.heap h' nl → DatIn (nl ++ nl0) (.ref got) (.list (dueL way ds)) → R (.ok (.ret (.ref got))) { s with heap := h', toks := tk' }) :
   codeAny (model prog w) A (.call (.ref 350) ⟨[.ref O, .str way tw], []⟩) R s := by
  w_top off
  obtain ⟨hd0, dp, fr, gd, un⟩ := A
  obtain rfl : hd0 = none := hh
  replace hdp : dp < 800 := hdp
  replace hu : un < 8000 := hu
  have hroom : dp < recursionLimit := Nat.lt_of_lt_of_le hdp (by decide)
  have hfr := B.stack
  dsimp only at hfr
  subst hfr
  k_dflt walk_at "m_enter"
  intro L h1 F N
  dsimp only
  generalize s.toks + _ = tk0
  replace F : Fr s.heap L h1 (fun y => List.lookup y [(Str.ofString "way", .str way tw), (Str.ofString "ones", .ref O)]) := F
  refine cut (fun s' => ∃ h' tk got, s' = { s with heap := h', toks := tk } ∧ Fr s.heap L h' (fun y => if y = Str.ofString "got" then some (.ref got) else List.lookup y [(Str.ofString "way", .str way tw), (Str.ofString "ones", .ref O)]) ∧ News s.heap L h' [(got, W.listOf #[] 0)]) ?_ ?_
  · k_steps
    exact ⟨rfl, _, _, _, rfl, by assumption, by assumption⟩
  rintro s' ⟨h2, tk2, got, rfl, F2, N2⟩
  clear F N
  refine wpAny_execs_cons ?_
  refine for_list ?_
  walk1
  have gotne := (N2 _ (.head _)).2.1
  have ggot := (N2 _ (.head _)).2.2
  have hlo : os.toArray.size = ds.length := by rw [List.size_toArray, datAll_len hos, List.length_map]
  have hO2 : ({ s with heap := h2, toks := tk2 } : Shared).heap.IsList O os.toArray := hO.at fun o e => F2.keep _ _ e
  refine ⟨O, os.toArray, fun I i s' => ∃ h' tk om gs c G oI, s' = { s with heap := h', toks := tk } ∧ Fr s.heap L h' (umap O got way tw om) ∧ News s.heap L h' [(I, oI), (got, W.listOf gs.toArray c)] ∧ @Ne Nat I got ∧ h'.IsListIter I O i ∧ i ≤ os.toArray.size ∧ DatAll nl0 gs G ∧ gs.length ≤ i ∧ dueL way ds = G ++ dueL way (ds.drop i), rfl, rfl, hO2, ?_, ?_, ?_, ?_⟩
  · intro h' hs hit
    obtain ⟨oI, hI, _⟩ := id hit
    have hlt := Heap.lt_size (N2 _ (.head _)).1
    refine ⟨h', tk2, none, [], 0, [], oI, rfl, fr_congr (F2.keeps hs) umap_start, ?_, Nat.ne_of_gt hlt, hit, Nat.zero_le _, .nil, Nat.le_refl _, rfl⟩
    intro p hp
    rcases List.mem_cons.mp hp with rfl | hp
    · exact ⟨hI, Nat.ne_of_gt F2.ns.lt, next_is_new F2⟩
    · exact (N2.grown hs) p hp
  · rintro I i _ ⟨h', tk, om, gs, c, G, oI, rfl, F', N', _, hit, hi, _⟩
    exact ⟨hit, hO.at fun o e => F'.keep _ _ e, hi⟩
  · rintro I i _ x hx ⟨h', tk, om, gs, c, G, oI, rfl, F', N', hne, hit, hi, hG, hgl, hdue⟩ h3 hit3 hs3
    obtain ⟨d, hd, hin⟩ := datAll_at hos (by simpa using hx)
    rw [List.getElem?_map] at hd
    obtain ⟨o, ho, rfl⟩ := Option.map_eq_some_iff.mp hd
    obtain ⟨a, t, vs, n, rfl, ha, hvs⟩ := one_in hin
    have hone : s.heap.IsList a (Value.str o.1 t :: vs).toArray := ⟨_, hnl _ ha, rfl, _, rfl⟩
    have hil := (Array.getElem?_eq_some_iff.mp hx).1
    have hvl' := hvl o (List.mem_of_getElem? ho)
    have hvn : vs.length = o.2.length := datAll_len hvs
    have NI := N' _ (.head _)
    have F3 := fr_ext F' NI.2.2 NI.2.1 (same_ext hs3)
    obtain ⟨oI3, hI3, hI3'⟩ := id hit3
    have N3 : News s.heap L h3 [(I, oI3), (got, W.listOf gs.toArray c)] := fun p hp => by
      rcases List.mem_cons.mp hp with rfl | hp
      · exact ⟨hI3, NI.2⟩
      · exact news_ext (fun q hq => N' q (.tail _ hq)) (fun q hq => by rw [List.mem_singleton.mp hq]; exact Ne.symm hne) (same_ext hs3) p hp
    clear hit hs3 N' F' NI hx
    have hdr : ds.drop i = o :: ds.drop (i + 1) := by
      have hi' : i < ds.length := by omega
      rw [List.drop_eq_getElem_cons hi']
      rw [List.getElem?_eq_getElem hi'] at ho
      cases ho; rfl
    rw [hdr, dueL_cons] at hdue
    have hgl2 : gs.toArray.size ≤ sizeLine := by rw [List.size_toArray, sizeLine_eq]; rw [List.size_toArray] at hi; omega
    have fin : ∀ h9 tk9 gs9 c9 G9 m9, Fr s.heap L h9 m9 → (∀ y, m9 y = umap O got way tw (some (.ref a)) y) → News s.heap L h9 [(I, oI3), (got, W.listOf gs9.toArray c9)] → DatAll nl0 gs9 G9 → gs9.length ≤ i + 1 → dueL way ds = G9 ++ dueL way (ds.drop (i + 1)) →
        ∃ h' tk om gs c G oI, ({ s with heap := h9, toks := tk9 } : Shared) = { s with heap := h', toks := tk } ∧ Fr s.heap L h' (umap O got way tw om) ∧ News s.heap L h' [(I, oI), (got, W.listOf gs.toArray c)] ∧ @Ne Nat I got ∧ h'.IsListIter I O (i + 1) ∧ i + 1 ≤ os.toArray.size ∧ DatAll nl0 gs G ∧ gs.length ≤ i + 1 ∧ dueL way ds = G ++ dueL way (ds.drop (i + 1)) :=
      fun h9 tk9 gs9 c9 G9 m9 F9 e9 N9 D9 l9 q9 => ⟨h9, tk9, some (.ref a), gs9, c9, G9, oI3, rfl, fr_congr F9 e9, N9, hne, ⟨oI3, (N9 _ (.head _)).1, hI3'⟩, hil, D9, l9, q9⟩
    have hpush : ∀ v : Value, gs.toArray.push v = (gs ++ [v]).toArray := fun v => by simp
    by_cases hr : o.1 = Str.ofString "refused"
    · rcases hw with rfl | rfl | rfl
      · rw [if_neg (by rintro (q | q); exact q hr; revert q; decide), if_pos rfl] at hdue
        have hr' : (o.1 != Str.ofString "refused") = false := by rw [hr]; decide
        k_steps
        rename_i F8 N8 l9 h9 F9 N9
        have l8 := Nat.ne_of_gt (Heap.lt_size (N8 _ (.tail _ (.tail _ (.head _)))).1)
        have l7 : @Ne Nat _ got := Nat.ne_of_gt l9.2
        refine append_K F9 N9 (Upd.tail l8 (Upd.tail l7 (Upd.tail hne (Upd.head (fun _ q => nomatch q))))) ?_ hgl2
        intro h10 F10 N10
        dsimp only at N10
        rw [hpush] at N10
        clear F8 N8 F9 N9 hdr hI3' hI3 hit3
        k_steps
        refine TurnF.brk ?_
        dsimp only
        k_steps
        refine hret _ _ _ got F10.keep (made_of N10) (.list (List.mem_append_left _ (.tail _ (.tail _ (.tail _ (.head _))))) ?_)
        rw [hdue]
        refine datAll_app (hG.mono fun p hp => List.mem_append_right _ hp) (.cons (.list (List.mem_append_left _ (.head _)) (.cons (.str _ _) (.cons (.str _ _) (hvs.mono fun p hp => List.mem_append_right _ hp)))) .nil)
      · rw [if_pos (.inr rfl)] at hdue
        have hr' : (o.1 != Str.ofString "refused") = false := by rw [hr]; decide
        k_steps
        all_goals first | (exfalso; rename (_ != _) = true => q; rw [hr'] at q; cases q) | skip
        all_goals
          rename Fr _ _ _ _ => F9
          rename News _ _ _ _ => N9
          rw [hpush] at N9
          exact TurnF.next (fin _ _ _ _ (G ++ [oneD o]) _ F9 umap_one N9 (datAll_app hG (.cons hin .nil)) (by simp; omega) (by rw [hdue]; simp))
      · rw [if_neg (by rintro (q | q); exact q hr; revert q; decide), if_neg (by decide)] at hdue
        have hr' : (o.1 != Str.ofString "refused") = false := by rw [hr]; decide
        k_steps
        all_goals first | (exfalso; rename (_ != _) = true => q; rw [hr'] at q; cases q) | skip
        all_goals
          rename Fr _ _ _ _ => F9
          rename News _ _ _ _ => N9
          exact TurnF.next (fin _ _ _ _ G _ F9 umap_one N9 hG (by omega) hdue)
    · rw [if_pos (.inl hr)] at hdue
      have hr' : (o.1 != Str.ofString "refused") = true := by simpa using hr
      k_steps
      all_goals first | (exfalso; rename (_ != _) = false => q; rw [hr'] at q; cases q) | skip
      all_goals
        rename Fr _ _ _ _ => F9
        rename News _ _ _ _ => N9
        rw [hpush] at N9
        exact TurnF.next (fin _ _ _ _ (G ++ [oneD o]) _ F9 umap_one N9 (datAll_app hG (.cons hin .nil)) (by simp; omega) (by rw [hdue]; simp))
  · rintro I _ h3 ⟨h', tk, om, gs, c, G, oI, rfl, F', N', hne, hit, hi, hG, hgl, hdue⟩ hx3
    have NI := N' _ (.head _)
    have F3 := fr_ext F' NI.2.2 NI.2.1 hx3
    have N3 : News s.heap L h3 [(got, W.listOf gs.toArray c)] := news_ext (fun q hq => N' q (.tail _ hq)) (fun q hq => by rw [List.mem_singleton.mp hq]; exact Ne.symm hne) hx3
    rw [hlo, List.drop_length] at hdue
    clear F2 N2 F' N' hit hx3 NI
    dsimp only
    k_steps
    rename Fr _ _ _ _ => F9
    rename News _ _ _ _ => N9
    refine hret _ _ [(got, W.listOf gs.toArray c)] got F9.keep (made_of N9) (.list (.head _) ?_)
    rw [hdue]
    unfold dueL
    rw [List.append_nil]
    exact hG.mono fun p hp => List.mem_append_right _ hp
end Mine
end
-- Nn
section
open PySem PySem.W PyProof.Rows
set_option maxRecDepth 100000
set_option linter.all false
namespace Mine
def endN (L : Addr) : GenEnd := fun _ s0 r s1 => r = .ok (.ret .none) ∧ Same s0 s1 ∧ KeepBut [L] s0.heap s1.heap
def noY : Protocol := fun _ _ _ _ _ => False
def RetN (P : Shared → Prop) (f : Flow) (s' : Shared) : Prop := f = .ret .none ∧ P s'
theorem seg_retO {prog : Program} {w : World} {A : Around} {R : GenEnd} {Y : Protocol} {n n₀ : Nat} {s₀ : Shared} {s : Shared} {env : Env} {body : List Stmt} {outer : List Env}
  {K : Flow → Sem Fin} {H : Value → Sem Fin} {gd : Bool → Bool} {lv : List Value → List Value} {st : Stmt} {rest : List Stmt} (OA : OkA A outer n₀) (P : Shared → Prop)
    (h : ∀ A3, OkA A3 (env :: outer) (n₀ + 1) → wpAny (model prog w) A3 (exec st env) (RetN P) (fun _ _ => False) s)
    (h2 : ∀ s', P s' → Seg (model prog w) A R Y n s₀ (.func body env) (K (.ret .none)) [] s') : Seg (model prog w) A R Y n s₀ (.func body env) ((execs (st :: rest) env).wrap K H gd lv) [] s :=
  seg_cutR (wpAny_mono (h _ OA.func) (fun f s' ⟨e, p⟩ => by subst e; exact h2 s' p) fun _ _ x => x.elim)
set_option maxHeartbeats 8000000 in
theorem next_none {prog : Program} {w : World} {mean : ExcName → Option Value} {mg mb : Str → Option Value} {loose : List Str}
   {A : Around} {base : Heap} {s : Shared} {Rr : Result → Shared → Prop} {R D kd : Addr} {way buf : Str}
   (X : (hd.heap_39 w.params).In base) (T : Top hd.view_39 loose mean mg mb base) (hb : base.StaysIn s.heap) (hsz : base.objs.size ≤ s.heap.objs.size) (hdp : A.depth < 800)
   (hR : s.heap.get? R = some (instObj 273 D)) (hD : IsRd w.params way buf s.heap D) (gR : base.get? R = none) (gD : base.get? D = none)
   (hret : ∀ L G h' gs tk, s.heap.StaysIn h' → s.heap.get? L = none → s.heap.get? G = none → L ≠ G → gs.bare = true → h'.IsGen G s.gens.size → (∃ o, h'.get? L = some o) →
     (∀ A outer s2, OkA A outer 690 → h'.StaysIn s2.heap → gs.Goes (model prog w) A (endN L) noY 0 (.send .none) s2) →
     Rr (.ok (.ret (.ref G))) { s with heap := h', gens := s.gens.push gs, toks := tk }) :
   codeAny (model prog w) A (.call (.ref 270) ⟨[.ref R, .ref kd], []⟩) Rr s := by
  w_top off
  have hroom : A.depth < recursionLimit := Nat.lt_of_lt_of_le hdp (by decide)
  have Xs := X.keeps hb
  k_dflt (refine' enterY hb X ?k2 ?k6 ?k7 ?k8 ?k9 ?kB ?_ ?c2 ?c3 ?c4 ?c5; (case k2 => exact Top.nolimit (by assumption)); (case k6 => k_is); (case k7 => k_is); (case k8 => assumption); (case k9 => first | exact BindsTo.of_eq rfl | exact binds_K (by assumption) rfl (by k_is) rfl rfl rfl); (case c5 => decide); (case kB => exact locs rfl); (case c2 => exact rfl); (case c3 => exact rfl); (case c4 => exact rfl); k_whole)
  intro L G h1 t1 t2 tk hL hLG hn1 k1 hG hall
  have sL : s.heap.get? L = none := Heap.get?_none_of_le hL
  have sG : s.heap.get? G = none := Heap.get?_none_of_le (Nat.le_of_lt (Nat.lt_of_le_of_lt hL hLG))
  refine hret L G h1 _ tk k1 sL sG (Nat.ne_of_lt hLG) rfl ⟨_, _, _, hG, rfl, rfl, rfl⟩ (by obtain ⟨o, _, _, e, _⟩ := hn1; exact ⟨o, e⟩) ?_
  intro A2 outer s2 OA k12
  refine ⟨rfl, ?_⟩
  have hn2 := hn1.keeps k12
  replace hn1 : s2.heap.Ns L (fun y => List.lookup y [(Str.ofString "data", .none), (Str.ofString "kinds", .ref kd), (Str.ofString "self", .ref R)]) := hn2
  refine seg_func ?_
  have hb2 : base.StaysIn s2.heap := fun b o q => k12 b o (k1 b o (hb b o q))
  have szL : base.objs.size ≤ L := Nat.le_trans hsz hL
  obtain ⟨kk1, tt1, kk2, kk3, tt3, hD⟩ := hD
  have hD2 := k12 D _ (k1 D _ hD)
  have hR2 := k12 R _ (k1 R _ hR)
  have nDL : D ≠ L := fun q => by rw [q, sL] at hD; cases hD
  have nRL : R ≠ L := fun q => by rw [q, sL] at hR; cases hR
  have F1 : Fr base L s2.heap _ := ⟨hn1, hb2, szL⟩
  have N1 : News base L s2.heap _ := rest_two hD2 hR2 gD gR nDL nRL
  have sp1 := rest_split (base := base) (L := L) hD2 hR2
  generalize restOf base s2.heap [L, D, R] = others at N1 sp1
  clear hn2 hret
  refine seg_retO OA (fun s' => ∃ h' tk, s' = { s2 with heap := h', toks := tk } ∧ KeepBut [L] s2.heap h') ?_ ?_
  · intro A3 OB
    obtain ⟨hd0, dp, fr0, gd, un⟩ := A3
    obtain ⟨a1, a2, a3, a4⟩ := OB
    dsimp only at a1 a2 a3 a4
    subst a1 a2
    k_steps
    rename Fr _ _ _ _ => F9
    rename News _ _ _ _ => N9
    exact ⟨rfl, _, _, rfl, keepBut_of F9 N9 sp1 hb2⟩
  · rintro s' ⟨h', tk, rfl, kb⟩
    refine seg_end (.ok (.ret .none)) ⟨rfl, ⟨_, rfl⟩, kb⟩
end Mine
end
-- Cr
section
local macro_rules | `(tactic| walk_at "mine no such step") => `(tactic| skip)
local macro_rules | `(tactic| walk_at "mine no such step") => `(tactic| skip)
local macro_rules | `(tactic| walk_at "mine no such step") => `(tactic| skip)
local macro_rules | `(tactic| walk_at "mine no such step") => `(tactic| skip)
local macro_rules | `(tactic| walk_at "mine no such step") => `(tactic| skip)
local macro_rules | `(tactic| walk_at "mine no such step") => `(tactic| skip)
local macro_rules | `(tactic| walk_at "mine no such step") => `(tactic| skip)
local macro_rules | `(tactic| walk_at "mine no such step") => `(tactic| skip)
local macro_rules | `(tactic| walk_at "mine no such step") => `(tactic| skip)
local macro_rules | `(tactic| walk_at "mine no such step") => `(tactic| skip)
local macro_rules | `(tactic| walk_at "mine no such step") => `(tactic| skip)
local macro_rules | `(tactic| walk_at "mine no such step") => `(tactic| skip)
local macro_rules | `(tactic| walk_at "mine no such step") => `(tactic| skip)
local macro_rules | `(tactic| walk_at "mine no such step") => `(tactic| skip)
local macro_rules | `(tactic| walk_at "mine no such step") => `(tactic| skip)
local macro_rules | `(tactic| walk_at "mine no such step") => `(tactic| skip)
local macro_rules | `(tactic| walk_at "mine no such step") => `(tactic| skip)
local macro_rules | `(tactic| walk_at "mine no such step") => `(tactic| skip)
local macro_rules | `(tactic| walk_at "mine no such step") => `(tactic| skip)
local macro_rules | `(tactic| walk_at "mine no such step") => `(tactic| skip)
local macro_rules | `(tactic| walk_at "mine no such step") => `(tactic| skip)
local macro_rules | `(tactic| walk_at "mine no such step") => `(tactic| skip)
local macro_rules | `(tactic| walk_at "mine no such step") => `(tactic| skip)
local macro_rules | `(tactic| walk_at "mine no such step") => `(tactic| skip)
local macro_rules | `(tactic| walk_at "mine no such step") => `(tactic| skip)
local macro_rules | `(tactic| walk_at "mine no such step") => `(tactic| skip)
local macro_rules | `(tactic| walk_at "mine no such step") => `(tactic| skip)
local macro_rules | `(tactic| walk_at "mine no such step") => `(tactic| skip)
local macro_rules | `(tactic| walk_at "mine no such step") => `(tactic| skip)
local macro_rules | `(tactic| walk_at "mine no such step") => `(tactic| skip)
local macro_rules | `(tactic| walk_at "mine no such step") => `(tactic| skip)
local macro_rules | `(tactic| walk_at "mine no such step") => `(tactic| skip)
local macro_rules | `(tactic| walk_at "mine no such step") => `(tactic| skip)
local macro_rules | `(tactic| walk_at "mine no such step") => `(tactic| skip)
local macro_rules | `(tactic| walk_at "mine no such step") => `(tactic| skip)
local macro_rules | `(tactic| walk_at "mine no such step") => `(tactic| skip)
local macro_rules | `(tactic| walk_at "mine no such step") => `(tactic| skip)
local macro_rules | `(tactic| walk_at "mine no such step") => `(tactic| skip)
local macro_rules | `(tactic| walk_at "mine no such step") => `(tactic| skip)
local macro_rules | `(tactic| walk_at "mine no such step") => `(tactic| skip)
set_option linter.all false
open PySem PySem.W PyProof.Rows PySem.Calls PySem.Spec LCg
namespace Mine
section
variable {prog : Program} {w : World} {A : Around} {E : Value → Shared → Prop} {s : Shared} {h₀ : Heap} {L : Addr} {m : Str → Option Value} {env : Env}
def SrcC (prog : Program) (w : World) (A : Around) (h₀ : Heap) (L : Addr) (m : Str → Option Value) (env : Env) (elt : Expr) (x : Str) (scope : Scope) (cl : List (Str × Addr)) (Fin : Shared → List Value → List (Addr × Obj) → Prop) (xv : Value) (s₁ : Shared) : Prop :=
  ∃ r a b c t u v n news, xv = .ref r ∧ A.handled = none ∧ Fr h₀ L s₁.heap m ∧ News h₀ L s₁.heap news ∧ IsRange s₁.heap r a b c t u v ∧ Builtin.Range.small a b c = true ∧ Builtin.Range.rangeSize a b c = ((n : Nat) : Int) ∧ n ≤ sizeLine ∧
    ∀ s₂ : Shared, (∃ h, s₂ = { s₁ with heap := h }) → CompRest prog w A h₀ L m env elt x scope cl s₂ (fun _ => True) (fun i v => ∃ t, v = .int (a + (i : Int) * c) t) (Fin s₂) n 0 [] news
theorem SrcC.range {elt : Expr} {x : Str} {scope : Scope} {cl : List (Str × Addr)} {Fin : Shared → List Value → List (Addr × Obj) → Prop} {r : Addr} {a b c : Int} {t u v : Tok} {n : Nat} {news : List (Addr × Obj)} {s₁ : Shared}
    (hh : A.handled = none) (F : Fr h₀ L s₁.heap m) (N : News h₀ L s₁.heap news) (hr : IsRange s₁.heap r a b c t u v) (hsm : Builtin.Range.small a b c = true) (hn : Builtin.Range.rangeSize a b c = ((n : Nat) : Int)) (hsz : n ≤ sizeLine)
    (h : ∀ g, CompRest prog w A h₀ L m env elt x scope cl { s₁ with heap := g } (fun _ => True) (fun i v => ∃ t, v = .int (a + (i : Int) * c) t) (Fin { s₁ with heap := g }) n 0 [] news) :
    SrcC prog w A h₀ L m env elt x scope cl Fin (.ref r) s₁ := ⟨r, a, b, c, t, u, v, n, news, rfl, hh, F, N, hr, hsm, hn, hsz, fun _ ⟨g, e⟩ => e ▸ h g⟩
/-- a list comprehension over a range of any step -/
theorem ListComp_R {elt iter : Expr} {x : Str} {px : Pos} {scope : Scope} {cl : List (Str × Addr)} {pos : Pos} {Q : Value → Shared → Prop} (F₀ : Fr h₀ L s.heap m)
    (hclos : closureFor scope env = pure cl) (hcell : ∀ y ∈ scope.names, y.2 ≠ .cell) (hkind : scope.kind = .function)
    (hnames : ∀ y ∈ scope.names, y.2 = .local → scope.names.lookup y.1 = some .local) (hx : scope.names.lookup x = some .local)
    (h : wpAny (model prog w) A (eval iter env) (SrcC prog w A h₀ L m env elt x scope cl (fun s₂ => FinE h₀ L m s₂ Q)) E s)
    (hs : ∀ x, foldedSetIterable iter env x = pure x := by intro _; rfl) :
    wpAny (model prog w) A (eval (.ListComp elt [⟨.Name x px, iter, [], 0⟩] scope pos) env) Q E s := by
  rw [eval_ListComp]
  refine wpAny_comprehension_free (use := none) rfl hs hclos hkind hnames (wpAny_mono h (fun xv s₁ h₁ => ?_) fun _ _ e => e)
  obtain ⟨r, a, b, c, t, u, v, n, news, rfl, hh, F, N, hr, hsm, hn, hsz, R⟩ := h₁
  refine wpAny_pyIter_range hr hsm ?_
  refine block_U (Walks.range hh s₁.heap.objs.size a c n) hsz (fun i h st => ⟨_, st⟩) (fun i h h' o nw st e e' _ _ _ => ?_) hcell hkind hx (by show IsRangeIter _ _ _ _ _; rw [hn]; simpa using Heap.get?_push_size _ rfl) (fun b hb => ?_)
      (F.keeps fun _ _ e => Heap.get?_push_of_some _ e) (N.grown fun _ _ e => Heap.get?_push_of_some _ e) (Nat.ne_of_lt F.ns.lt) (next_is_new F) (fun p hp => Nat.ne_of_lt (Heap.lt_size (N p hp).1)) trivial (R _ ⟨_, rfl⟩) ?_
  · have st' : h.get? _ = some _ := st
    show h'.get? _ = some _
    rw [e', ← e]; exact st'
  · rw [List.mem_singleton.mp hb]
    show s₁.heap.objs.size < (s₁.heap.push _).objs.size
    rw [Heap.size_push]; exact Nat.lt_succ_self _
  · intro D C h tk m' ys news' F' N' o1 hn hC₀ hD₀ hCL hDL hCD offC fin
    refine ⟨m', hn, fun h'' hs'' => fin D h'' tk (F'.change hs'' hCL hC₀) (fun p hp => ?_) o1⟩
    refine ⟨hs''.extBut _ _ ?_ (N' p hp).1, (N' p hp).2⟩
    rcases List.mem_cons.mp hp with rfl | hp
    · exact Ne.symm hCD
    · exact offC p hp
/-- the rest of a comprehension whose elements stand in a relation with their place, and make nothing that is kept -/
theorem rest_each {elt : Expr} {x : Str} {scope : Scope} {cl : List (Str × Addr)} {S : List (Addr × Obj) → Prop} {P : Nat → Value → Prop} {Fin : List Value → List (Addr × Obj) → Prop} {news : List (Addr × Obj)} {n : Nat} (Rel : Nat → Value → Prop)
    (turn : ∀ i v I oI C oC D m₂ ys h tk (E' : Value → Shared → Prop), i < n → P i v → NsObj oC m₂ → m₂ x = some v → Fr h₀ L h m → News h₀ L h ((I, oI) :: (C, oC) :: (D, lst ys) :: news) → Off3 I C D news → ((@Ne Nat I C) ∧ (@Ne Nat I D) ∧ (@Ne Nat C D)) →
      wpAny (model prog w) A (eval elt (compEnvC scope cl C env)) (CompEnd h₀ L m { s with heap := h, toks := tk } I oI C oC D (lst ys) S (fun y news' => news' = news ∧ Rel i y)) E' { s with heap := h, toks := tk })
    (fin : ∀ ys, ys.length = n → (∀ i y, ys[i]? = some y → Rel i y) → Fin ys news) : CompRest prog w A h₀ L m env elt x scope cl s S P Fin n 0 [] news := by
  have key : ∀ (j i : Nat) (ys : List Value), i + j = n → ys.length = i → (∀ i y, ys[i]? = some y → Rel i y) → CompRest prog w A h₀ L m env elt x scope cl s S P Fin j i ys news := by
    intro j
    induction j with
    | zero => exact fun i ys hi hl hr => CompRest.zero (fin ys (by omega) hr)
    | succ j ih =>
      intro i ys hi hl hr
      refine CompRest.succ ?_
      intro v I oI C oC D m₂ h tk E' hv hC hx F N off ne
      refine wpAny_mono (turn i v I oI C oC D m₂ ys h tk E' (by omega) hv hC hx F N off ne) (fun y s₂ hq => ?_) fun _ _ e => e
      obtain ⟨h', tk', nw, e, F', N', off', hS, hn, hy⟩ := hq
      subst hn
      refine ⟨h', tk', nw, e, F', N', off', hS, ih (i + 1) _ (by omega) (by rw [List.length_append, List.length_singleton, hl]) fun k z hz => ?_⟩
      by_cases q : k < ys.length
      · rw [List.getElem?_append_left q] at hz; exact hr k z hz
      · rw [List.getElem?_append_right (Nat.le_of_not_lt q)] at hz
        have : k - ys.length = 0 := by
          cases q9 : k - ys.length with
          | zero => rfl
          | succ d => rw [q9] at hz; cases hz
        rw [this] at hz
        cases hz
        have : k = i := by omega
        rw [this]; exact hy
  exact key n 0 [] (by omega) rfl fun i y h => nomatch h
/-- the same where each element brings new objects -/
theorem rest_grow {elt : Expr} {x : Str} {scope : Scope} {cl : List (Str × Addr)} {S : List (Addr × Obj) → Prop} {P : Nat → Value → Prop} {Fin : List Value → List (Addr × Obj) → Prop} {news : List (Addr × Obj)} {n : Nat} (Rel : Nat → List (Addr × Obj) → Value → Prop)
    (mono : ∀ i l l' y, (∀ p ∈ l, p ∈ l') → Rel i l y → Rel i l' y)
    (turn : ∀ i v I oI C oC D m₂ ys nl h tk (E' : Value → Shared → Prop), i < n → P i v → NsObj oC m₂ → m₂ x = some v → Fr h₀ L h m → News h₀ L h ((I, oI) :: (C, oC) :: (D, lst ys) :: (nl ++ news)) → Off3 I C D (nl ++ news) → ((@Ne Nat I C) ∧ (@Ne Nat I D) ∧ (@Ne Nat C D)) → S (nl ++ news) →
      wpAny (model prog w) A (eval elt (compEnvC scope cl C env)) (CompEnd h₀ L m { s with heap := h, toks := tk } I oI C oC D (lst ys) S (fun y news' => ∃ nl', news' = nl' ++ (nl ++ news) ∧ Rel i nl' y)) E' { s with heap := h, toks := tk })
    (hS0 : S news) (fin : ∀ ys nl, ys.length = n → (∀ i y, ys[i]? = some y → Rel i nl y) → Fin ys (nl ++ news)) : CompRest prog w A h₀ L m env elt x scope cl s S P Fin n 0 [] news := by
  have key : ∀ (j i : Nat) (ys : List Value) (nl : List (Addr × Obj)), i + j = n → ys.length = i → S (nl ++ news) → (∀ i y, ys[i]? = some y → Rel i nl y) → CompRest prog w A h₀ L m env elt x scope cl s S P Fin j i ys (nl ++ news) := by
    intro j
    induction j with
    | zero => exact fun i ys nl hi hl _ hr => CompRest.zero (fin ys nl (by omega) hr)
    | succ j ih =>
      intro i ys nl hi hl hS hr
      refine CompRest.succ ?_
      intro v I oI C oC D m₂ h tk E' hv hC hx F N off ne
      refine wpAny_mono (turn i v I oI C oC D m₂ ys nl h tk E' (by omega) hv hC hx F N off ne hS) (fun y s₂ hq => ?_) fun _ _ e => e
      obtain ⟨h', tk', nw, e, F', N', off', hS', nl', hn, hy⟩ := hq
      subst hn
      have ih' := ih (i + 1) (ys ++ [y]) (nl' ++ nl) (by omega) (by rw [List.length_append, List.length_singleton, hl]) (by rw [List.append_assoc]; exact hS') fun k z hz => ?_
      · rw [List.append_assoc] at ih'
        exact ⟨h', tk', _, e, F', N', off', hS', ih'⟩
      · by_cases q : k < ys.length
        · rw [List.getElem?_append_left q] at hz
          exact mono _ _ _ _ (fun p hp => List.mem_append_right _ hp) (hr k z hz)
        · rw [List.getElem?_append_right (Nat.le_of_not_lt q)] at hz
          have : k - ys.length = 0 := by
            cases q9 : k - ys.length with
            | zero => rfl
            | succ d => rw [q9] at hz; cases hz
          rw [this] at hz
          cases hz
          have : k = i := by omega
          rw [this]
          exact mono _ _ _ _ (fun p hp => List.mem_append_left _ hp) hy
  exact key n 0 [] [] (by omega) rfl hS0 fun i y h => nomatch h
end
end Mine
end
-- Cn
section
open PySem PySem.W PyProof.Rows PySem.Calls PySem.Spec LCg
set_option maxRecDepth 100000
set_option linter.all false
namespace Mine
theorem OkA.in1 {A : Around} {outer : List Env} {n : Nat} (h : OkA A outer n) : OkA A.in1 outer (n + 1) :=
  ⟨h.handled, h.frames, Nat.lt_succ_of_lt h.depth, by show A.units + 1 < 10 * (n + 1); have := h.units; omega⟩
section
variable {prog : Program} {w : World} {A : Around} {E : Value → Shared → Prop} {s : Shared} {env : Env}
/-- what a comprehension over a generator that ends at once needs -/
def SrcG (prog : Program) (w : World) (A : Around) (Q : Value → Shared → Prop) (xv : Value) (s₁ : Shared) : Prop :=
  ∃ G g gs L0 outer, xv = .ref G ∧ OkA A outer 689 ∧ s₁.heap.NoLimit ∧ s₁.heap.IsGen G g ∧ s₁.gens[g]? = some gs ∧ (∀ x ∈ s₁.gens, x.bare = true) ∧ (∃ o, s₁.heap.get? L0 = some o) ∧ (∃ o, s₁.heap.get? G = some o) ∧
    (∀ A outer s2, OkA A outer 690 → s₁.heap.StaysIn s2.heap → gs.Goes (model prog w) A (endN L0) noY 0 (.send .none) s2) ∧
    ∀ h' gens' tk D, KeepBut [L0] s₁.heap h' → s₁.heap.get? D = none → h'.get? D = some (lst []) → (∀ x ∈ gens', x.bare = true) → Q (.ref D) { s₁ with heap := h', gens := gens', toks := tk }
theorem ListComp_N {elt iter : Expr} {x : Str} {px : Pos} {scope : Scope} {cl : List (Str × Addr)} {pos : Pos} {Q : Value → Shared → Prop}
    (hclos : closureFor scope env = pure cl) (hcell : ∀ y ∈ scope.names, y.2 ≠ .cell) (hkind : scope.kind = .function)
    (hnames : ∀ y ∈ scope.names, y.2 = .local → scope.names.lookup y.1 = some .local)
    (h : wpAny (model prog w) A (eval iter env) (SrcG prog w A Q) E s)
    (hs : ∀ x, foldedSetIterable iter env x = pure x := by intro _; rfl) :
    wpAny (model prog w) A (eval (.ListComp elt [⟨.Name x px, iter, [], 0⟩] scope pos) env) Q E s := by
  rw [eval_ListComp]
  refine wpAny_comprehension_free (use := none) rfl hs hclos hkind hnames (wpAny_mono h (fun xv s₁ h₁ => ?_) fun _ _ e => e)
  obtain ⟨G, g, gs, L0, outer, rfl, OA, nl, hg, hgs, hb, ⟨oL, hoL⟩, ⟨oG, hoG⟩, go, hQ⟩ := h₁
  refine wpAny_pyIter_gen hg ?_
  refine wpAny_newObj_type (wpAny_newFunctionEnv hcell (by intro y hy; simp at hy) (fun h₁ hns₁ hsb₁ => ?_) hkind)
  dsimp only at hns₁ hsb₁ ⊢
  generalize hH2 : s₁.heap.push { cls := .type "list", dict := none, data := .seq ([] : List Value).toArray } = H2 at hns₁ hsb₁ ⊢
  have hC : H2.objs.size = s₁.heap.objs.size + 1 := by rw [← hH2, Heap.size_push]
  have hDC : s₁.heap.objs.size ≠ H2.objs.size := by rw [hC]; exact Nat.ne_of_lt (Nat.lt_succ_self _)
  have below : ∀ b, b < s₁.heap.objs.size → b ≠ H2.objs.size ∧ b ≠ s₁.heap.objs.size := fun b hb => ⟨by rw [hC]; exact Nat.ne_of_lt (Nat.lt_succ_of_lt hb), Nat.ne_of_lt hb⟩
  have old : s₁.heap.StaysIn h₁ := fun b o e => hsb₁.extBut b o (below b (Heap.lt_size e)).1 (Heap.get?_push_of_some _ (hH2 ▸ Heap.get?_push_of_some _ e))
  have hacc : h₁.get? s₁.heap.objs.size = some (lst []) := hsb₁.extBut _ _ hDC (Heap.get?_push_of_some _ (hH2 ▸ Heap.get?_push_size _ rfl))
  have hg₁ : h₁.IsGen G g := by
    obtain ⟨o, nm, qn, a, b⟩ := hg
    exact ⟨o, nm, qn, old _ _ a, b⟩
  have hroom : A.depth < recursionLimit := Nat.lt_of_lt_of_le OA.depth (by decide)
  have loop : ∀ cenv : Env, codeAny (model prog w) A (.compLoop (.ListComp elt [⟨.Name x px, iter, [], 0⟩] scope pos) 0 (.ref G) (.ref s₁.heap.objs.size) cenv)
        (compPost (model prog w) A E none Q (.ref s₁.heap.objs.size) H2.objs.size) { s₁ with heap := h₁, toks := s₁.toks + ([] : List (Str × Value)).length } := by
    intro cenv
    refine codeAny_compLoop_tests (fun k s' => s' = { s₁ with heap := h₁, toks := s₁.toks + ([] : List (Str × Value)).length }) ?_ 0 rfl
    rintro k s' rfl
    refine wpAny_pyNext_gen (P := fun _ s0 s1 => Same s0 s1 ∧ KeepBut [L0] s0.heap s1.heap) (Y := noY) (n := 0) OA.handled (nl.keeps old) hroom hg₁ hgs ?_ ?_ ?_
    · exact go _ _ _ OA.in1 (by show s₁.heap.StaysIn h₁; exact old)
    · intro v s2 gs' hy
      exact hy.elim
    · rintro s2 ⟨⟨tk, e2⟩, kb⟩ h3 k3
      have kb3 : KeepBut [L0] h₁ h3 := fun b o n e => k3 b o (kb b o n e)
      have nCL : H2.objs.size ≠ L0 := fun q => by
        have := Heap.lt_size hoL
        rw [← q, hC] at this
        exact absurd this (Nat.not_lt.mpr (Nat.le_succ _))
      have nDL : s₁.heap.objs.size ≠ L0 := fun q => by
        have := Heap.lt_size hoL
        rw [← q] at this
        exact absurd this (Nat.lt_irrefl _)
      refine ⟨_, hns₁.at' fun o e => kb3 _ o (by simpa using nCL) e, fun h4 hs4 => ?_⟩
      have e3 : s2.gens = (s₁.setGen g .running).gens := by rw [e2]; rfl
      have e4 : s2.drawn = s₁.drawn := by rw [e2]; rfl
      have e5 : s2.os = s₁.os := by rw [e2]; rfl
      have := hQ h4 (s2.setGen g .finished).gens s2.toks s₁.heap.objs.size (fun b o n e => hs4.extBut b o (below b (Heap.lt_size e)).1 (kb3 b o n (old b o e))) (Heap.get?_none_of_le (Nat.le_refl _)) (hs4.extBut _ _ hDC (kb3 _ _ (by simpa using nDL) hacc)) (bare_set (by rw [e3]; exact bare_set hb rfl) rfl)
      rw [← e4, ← e5] at this
      exact this
  have hg2 : ({ s₁ with heap := h₁, toks := s₁.toks + ([] : List (Str × Value)).length } : Shared).heap.IsGen G g := hg₁
  exact codeAny_compStart_list (loop _) (wpAny_pyIter_gen hg2 (loop _))
end
end Mine
end
-- Ea
section
local macro_rules | `(tactic| walk_at "mine no such step") => `(tactic| skip)
local macro_rules | `(tactic| walk_at "mine no such step") => `(tactic| skip)
local macro_rules | `(tactic| walk_at "mine no such step") => `(tactic| skip)
local macro_rules | `(tactic| walk_at "mine no such step") => `(tactic| skip)
local macro_rules | `(tactic| walk_at "mine no such step") => `(tactic| skip)
local macro_rules | `(tactic| walk_at "mine no such step") => `(tactic| skip)
local macro_rules | `(tactic| walk_at "mine no such step") => `(tactic| skip)
local macro_rules | `(tactic| walk_at "mine no such step") => `(tactic| skip)
local macro_rules | `(tactic| walk_at "mine no such step") => `(tactic| skip)
local macro_rules | `(tactic| walk_at "mine no such step") => `(tactic| skip)
local macro_rules | `(tactic| walk_at "mine no such step") => `(tactic| skip)
local macro_rules | `(tactic| walk_at "mine no such step") => `(tactic| skip)
local macro_rules | `(tactic| walk_at "mine no such step") => `(tactic| skip)
local macro_rules | `(tactic| walk_at "mine no such step") => `(tactic| skip)
local macro_rules | `(tactic| walk_at "mine no such step") => `(tactic| skip)
local macro_rules | `(tactic| walk_at "mine no such step") => `(tactic| skip)
local macro_rules | `(tactic| walk_at "mine no such step") => `(tactic| skip)
local macro_rules | `(tactic| walk_at "mine no such step") => `(tactic| skip)
local macro_rules | `(tactic| walk_at "mine no such step") => `(tactic| skip)
local macro_rules | `(tactic| walk_at "mine no such step") => `(tactic| skip)
local macro_rules | `(tactic| walk_at "mine no such step") => `(tactic| skip)
local macro_rules | `(tactic| walk_at "mine no such step") => `(tactic| skip)
local macro_rules | `(tactic| walk_at "mine no such step") => `(tactic| skip)
local macro_rules | `(tactic| walk_at "mine no such step") => `(tactic| skip)
local macro_rules | `(tactic| walk_at "mine no such step") => `(tactic| skip)
local macro_rules | `(tactic| walk_at "mine no such step") => `(tactic| skip)
local macro_rules | `(tactic| walk_at "mine no such step") => `(tactic| skip)
local macro_rules | `(tactic| walk_at "mine no such step") => `(tactic| skip)
local macro_rules | `(tactic| walk_at "mine no such step") => `(tactic| skip)
local macro_rules | `(tactic| walk_at "mine no such step") => `(tactic| skip)
local macro_rules | `(tactic| walk_at "mine no such step") => `(tactic| skip)
local macro_rules | `(tactic| walk_at "mine no such step") => `(tactic| skip)
local macro_rules | `(tactic| walk_at "mine no such step") => `(tactic| skip)
local macro_rules | `(tactic| walk_at "mine no such step") => `(tactic| skip)
local macro_rules | `(tactic| walk_at "mine no such step") => `(tactic| skip)
local macro_rules | `(tactic| walk_at "mine no such step") => `(tactic| skip)
local macro_rules | `(tactic| walk_at "mine no such step") => `(tactic| skip)
local macro_rules | `(tactic| walk_at "mine no such step") => `(tactic| skip)
local macro_rules | `(tactic| walk_at "mine no such step") => `(tactic| skip)
local macro_rules | `(tactic| walk_at "mine no such step") => `(tactic| skip)
open PySem PySem.W PyProof.Rows
set_option linter.all false
namespace Mine
local macro_rules | `(tactic| walk_at "m_enter") => `(tactic| (refine' enterC ?k1 ?k2 ?k6 ?k7 ?k8 ?k9 ?kB ?kD ?_ ?c2 ?c3 ?c4; (case k1 => assumption); (case k2 => first | assumption | exact Top.nolimit (by assumption)); (case k6 => k_is); (case k7 => k_is); (case k8 => first | assumption | omega | decide); (case k9 => exact BindsTo.of_eq rfl); (case kB => exact rfl); (case kD => decide +kernel); (case c2 => exact rfl); (case c3 => exact rfl); (case c4 => exact rfl); k_whole; intro L' h' tk' cells' F' N' Y'; k_cells Y'; (try simp only [List.cons_append, List.nil_append] at N'); (try dsimp only); (try k_fold)))
def cnt2 (a b : Int) : Nat := (if a < b then (b - a - 1) / 2 + 1 else 0).toNat
theorem size_two (a b : Int) : Builtin.Range.rangeSize a b 2 = ((cnt2 a b : Nat) : Int) := by
  unfold Builtin.Range.rangeSize cnt2
  rw [if_pos (by decide)]
  split <;> omega
theorem small_two {a b : Int} (ha : 0 ≤ a) (ha' : a ≤ 1) (hb : 0 ≤ b) (hb' : b ≤ 24) : Builtin.Range.small a b 2 = true := by
  unfold Builtin.Range.small
  rw [show Builtin.Range.rangeSize a b 2 = _ from size_two a b]
  unfold cnt2
  simp only [Builtin.Range.rangeFitsLong, Bool.and_eq_true, Bool.or_eq_true, decide_eq_true_eq, beq_iff_eq, show (2 : Int) > 0 by decide, if_true]
  split <;> omega
theorem cnt2_le {a b : Int} (ha : 0 ≤ a) (hb : b ≤ 24) : cnt2 a b ≤ sizeLine := by
  unfold cnt2
  rw [sizeLine_eq]
  split <;> omega
theorem cnt2_lt {f l : Int} {n i : Nat} (h : i < cnt2 f (if (n : Int) < l then (n : Int) else l)) : f + (i : Int) * 2 < (n : Int) := by
  unfold cnt2 at h
  split at h <;> split at h <;> omega
def EachR (ks : List Int) (f : Int) (i : Nat) (y : Value) : Prop := ∃ t, y = .int (ks.getD (f + (i : Int) * 2).toNat 0) t
/-- every second number of a list -/
def eachL (ks : List Int) (f l : Int) : List Int := (List.range (cnt2 f (if (ks.length : Int) < l then (ks.length : Int) else l))).map fun (i : Nat) => ks.getD (f + (i : Int) * 2).toNat 0
theorem ints_app : ∀ {ys zs : List Value} {a b : List Int}, IntsAre ys a → IntsAre zs b → IntsAre (ys ++ zs) (a ++ b)
  | _, _, _, _, .nil, h => h
  | _, _, _, _, .cons i t r, h => .cons i t (ints_app r h)
theorem ints_rel {g : Nat → Int} : ∀ {n : Nat} {ys : List Value}, ys.length = n → (∀ i y, ys[i]? = some y → ∃ t, y = Value.int (g i) t) → IntsAre ys ((List.range n).map g)
  | 0, [], _, _ => .nil
  | n + 1, ys, hl, h => by
    have e : ys = ys.take n ++ ys.drop n := (List.take_append_drop n ys).symm
    have hd : (ys.drop n).length = 1 := by rw [List.length_drop, hl]; omega
    obtain ⟨y, hy⟩ : ∃ y, ys.drop n = [y] := by
      cases q : ys.drop n with
      | nil => rw [q] at hd; cases hd
      | cons a r =>
        cases r with
        | nil => exact ⟨a, rfl⟩
        | cons b r => rw [q] at hd; simp at hd
    have hn : ys[n]? = some y := by
      have := congrArg List.head? hy
      rw [List.head?_drop] at this
      exact this
    obtain ⟨t, rfl⟩ := h n y hn
    have ih := ints_rel (n := n) (ys := ys.take n) (by rw [List.length_take, hl]; omega) (fun i z hz => h i z (by
      rw [List.getElem?_take] at hz
      split at hz
      · exact hz
      · cases hz))
    rw [e, hy, List.range_succ, List.map_append]
    exact ints_app ih (.cons _ _ .nil)
local macro_rules | `(tactic| walk_at "eval ListComp") => `(tactic| (k_here; k_dflt (refine ListComp_R (F₀ := by k_asm) (by with_unfolding_all rfl) (by decide) (by rfl) (by decide) (by rfl) ?_)))
set_option maxRecDepth 100000 in
set_option maxHeartbeats 8000000 in
theorem each_spec {prog : Program} {w : World} {mean : ExcName → Option Value} {mg mb : Str → Option Value} {loose : List Str}
   {A : Around} {outer : List Env} {base : Heap} {s : Shared} {R : Result → Shared → Prop} {t1 t2 : Tok} {f l : Int} {ax : Addr} {vs : List Value} {ks : List Int} 
   (X : (hd.heap_39 w.params).In s.heap) (T : Top hd.view_39 loose mean mg mb s.heap) (B : Below A base outer s.heap) (hh : A.handled = none) (hdp : A.depth < 800) (hu : A.units < 8000)
   (hl : s.heap.IsList ax vs.toArray) (hi : IntsAre vs ks) (hk : ks.length ≤ 63) (hf : f = 0 ∨ f = 1) (hl2 : l = 14 ∨ l = 24)
   (hret : ∀ h' tk' D ys, s.heap.StaysIn h' → s.heap.get? D = none → h'.get? D = some (W.listOf ys.toArray ys.length) → IntsAre ys (eachL ks f l) → R (.ok (.ret (.ref D))) { s with heap := h', toks := tk' }) :
   codeAny (model prog w) A (.call (.ref 317) ⟨[.ref ax, .int f t1, .int l t2], []⟩) R s := by
  w_top off
  obtain ⟨hd0, dp, fr, gd, un⟩ := A
  obtain rfl : hd0 = none := hh
  replace hdp : dp < 800 := hdp
  replace hu : un < 8000 := hu
  have hroom : dp < recursionLimit := Nat.lt_of_lt_of_le hdp (by decide)
  have hfr := B.stack
  dsimp only at hfr
  subst hfr
  k_dflt walk_at "m_enter"
  k_steps
  k_dflt (refine SrcC.range (by rfl) (by k_asm) (by k_asm) (by assumption) (small_two (by omega) (by omega) (by first | omega | (split <;> omega)) (by first | omega | (split <;> omega))) (size_two _ _) (cnt2_le (by omega) (by first | omega | (split <;> omega))) ?_)
  intro g'
  refine rest_each (EachR ks f) (fun i' v' I' oI' C' oC' D' m' ys' h' tk' E' hi' hv' hC' hx' F' N' off' ne' => ?_) ?_
  · obtain ⟨t9, rfl⟩ := hv'
    simp only [LCg.Off3, and_true] at off'
    have hb1 : 0 ≤ f + (i' : Int) * 2 := by omega
    have hb2 : f + (i' : Int) * 2 < (ks.length : Int) := cnt2_lt hi'
    k_steps
    exact ⟨_, rfl⟩
  · intro ys hyl hyr
    unfold LCg.FinE
    intro D9 h9 tk9 F9 N9 o9
    dsimp only
    exact hret _ _ _ _ F9.keep (N9 _ (.head _)).2.2 (N9 _ (.head _)).1 (ints_rel hyl hyr)
end Mine
end
-- Lh
section
open PySem PySem.W PyProof.Rows LCg
set_option maxRecDepth 100000
set_option linter.all false
namespace Mine
theorem below_push {A : Around} {base g h : Heap} {outer : List Env} {env : Env} {L : Addr} {m : Str → Option Value} (K : Below A base outer g) (F : Fr g L h m) (hf : env.frame = some L) (hk : env.scope.kind ≠ .module) : Below (A.deeper env) base (env :: outer) h := by
  obtain ⟨o, ho, hd⟩ := ns_notFields F.ns
  refine ⟨by show A.frames.map (env :: ·) = _; rw [K.stack]; rfl, fun b o q => F.keep b o (K.stays b o q), hk, ⟨L, o, hf, ?_, ho, hd⟩, K.frames.of_keeps fun b o q _ => ⟨o, F.keep b o q, rfl⟩⟩
  cases q : base.get? L with
  | none => rfl
  | some o =>
    have e1 := K.stays L o q
    rw [none_above F.above] at e1; cases e1
theorem fresh_for {g h : Heap} {L D : Addr} {m : Str → Option Value} (F : Fr g L h m) (nD : h.get? D = none) : D ≠ L ∧ g.get? D = none := by
  refine ⟨fun q => ?_, none_of_stays F.keep nD⟩
  obtain ⟨o, _, _, e, _⟩ := F.ns
  rw [q, e] at nD; cases nD
theorem news_made {g h h' : Heap} {L : Addr} {m : Str → Option Value} {nl news : List (Addr × Obj)} (F : Fr g L h m) (N : News g L h news) (k : h.StaysIn h') (hm : Made h h' nl) : News g L h' (nl ++ news) := fun p hp => by
  rcases List.mem_append.mp hp with hp | hp
  · exact ⟨(hm p hp).1, fresh_for F (hm p hp).2⟩
  · exact N.grown k p hp
theorem comp_made {h₀ h h' : Heap} {L I C D : Addr} {m : Str → Option Value} {s₁ : Shared} {oI oC oD : Obj} {S : List (Addr × Obj) → Prop} {rest : Value → List (Addr × Obj) → Prop} {y : Value} {tk : Nat} {nl news : List (Addr × Obj)}
    (F : Fr h₀ L h m) (N : News h₀ L h ((I, oI) :: (C, oC) :: (D, oD) :: news)) (off : Off3 I C D news) (k : h.StaysIn h') (hm : Made h h' nl) (hS : S (nl ++ news)) (r : rest y (nl ++ news)) :
    CompEnd h₀ L m s₁ I oI C oC D oD S rest y { s₁ with heap := h', toks := tk } := by
  refine ⟨h', tk, nl ++ news, rfl, F.keeps k, fun p hp => ?_, Off3.of fun p hp => ?_, hS, r⟩
  · rcases List.mem_cons.mp hp with rfl | hp
    · exact N.grown k _ (.head _)
    rcases List.mem_cons.mp hp with rfl | hp
    · exact N.grown k _ (.tail _ (.head _))
    rcases List.mem_cons.mp hp with rfl | hp
    · exact N.grown k _ (.tail _ (.tail _ (.head _)))
    · exact news_made F (fun q hq => N q (.tail _ (.tail _ (.tail _ hq)))) k hm p hp
  · rcases List.mem_append.mp hp with hp | hp
    · have nn := (hm p hp).2
      refine ⟨fun q => ?_, fun q => ?_, fun q => ?_⟩
      · rw [q, (N _ (.head _)).1] at nn; cases nn
      · rw [q, (N _ (.tail _ (.head _))).1] at nn; cases nn
      · rw [q, (N _ (.tail _ (.tail _ (.head _)))).1] at nn; cases nn
    · exact off.mem p hp
theorem ints_get : ∀ {vs : List Value} {ns : List Int} {i : Nat} {v : Value}, IntsAre vs ns → vs[i]? = some v → ∃ t, v = .int (ns.getD i 0) t
  | _, _, _, _, .nil, h => nomatch h
  | _, _, 0, _, .cons i t r, h => by cases h; exact ⟨t, rfl⟩
  | _, _, i + 1, _, .cons _ _ r, h => by
    have := ints_get (i := i) r h
    simpa using this
def wordN (n : Int) : Str := Str.ofString (toString ((n.fdiv 8).fmod 100))
def txN (n : Int) : Str := lineTx n (wordN n) (cr (n.fdiv 8))
def dxN (n : Int) : Dat := lineDx n (wordN n) (cr (n.fdiv 8))
set_option maxRecDepth 100000 in
theorem hexL_all : (List.range 256).all (fun r => decide ((Txt.lower (hexT (r : Int))).length ≤ 3)) = true := by decide +kernel
theorem hexT_mod (v : Int) : hexT v = hexT (v.fmod 256) := by
  have h0 := fmod_lo v (by decide : (0 : Int) < 256)
  have h1 := fmod_hi v (by decide : (0 : Int) < 256)
  have : (v.fmod 256).fmod 256 = v.fmod 256 := by
    rw [Int.fmod_eq_emod_of_nonneg _ (by decide : (0 : Int) ≤ 256), Int.emod_eq_of_lt h0 h1]
  unfold hexT; rw [this]
theorem hexL_len (v : Int) : (Txt.lower (hexT v)).length ≤ 3 := by
  have h0 := fmod_lo v (by decide : (0 : Int) < 256)
  have h1 := fmod_hi v (by decide : (0 : Int) < 256)
  rw [hexT_mod]
  obtain ⟨n, hn⟩ := Int.eq_ofNat_of_zero_le h0
  have := List.all_eq_true.mp hexL_all n (List.mem_range.mpr (by omega))
  rw [hn]
  simpa using this
set_option maxRecDepth 100000 in
theorem word_all : (List.range 100).all (fun r => decide ((Str.ofString (toString ((r : Nat) : Int))).length ≤ 2)) = true := by decide +kernel
theorem word_len (n : Int) : (wordN n).length ≤ 2 := by
  have h0 := fmod_lo (n.fdiv 8) (by decide : (0 : Int) < 100)
  have h1 := fmod_hi (n.fdiv 8) (by decide : (0 : Int) < 100)
  obtain ⟨k, hk⟩ := Int.eq_ofNat_of_zero_le h0
  have := List.all_eq_true.mp word_all k (List.mem_range.mpr (by omega))
  unfold wordN
  rw [hk]
  simpa using this
theorem cr_len (r : Int) : (cr r).length ≤ 1 := by unfold cr; split <;> decide
theorem txN_len (n : Int) : (txN n).length ≤ 120 := by
  have h1 := word_len n
  have h2 := cr_len (n.fdiv 8)
  have h3 := manyS_len (r := n.fdiv 8) h1
  unfold txN lineTx sumS
  have a1 : (Str.ofString "$").length = 1 := by decide
  have a2 : (Str.ofString "GPWPL,").length = 6 := by decide
  have a3 : (Str.ofString ",N").length = 2 := by decide
  have a4 : (Str.ofString "$IITXT,a,").length = 9 := by decide
  have a5 : (Str.ofString "$CCGPQ,WPL").length = 10 := by decide
  have a6 : (Str.ofString "PXYZ").length = 4 := by decide
  have a7 : (Str.ofString ",").length = 1 := by decide
  have a8 : (Str.ofString "GPZZZ,").length = 6 := by decide
  have a9 : (Str.ofString "-").length = 1 := by decide
  split
  · rw [Str.length_append, Str.length_append, Str.length_append, Str.length_append, Str.length_append]; have := hexT_len (xorFrom 0 (Str.ofString "GPWPL," ++ wordN n ++ Str.ofString ",N").cps.toList + 0); omega
  split
  · rw [Str.length_append, Str.length_append]; omega
  split
  · rw [Str.length_append, Str.length_append]; have := hexT_len (xorFrom 0 (Str.ofString "CCGPQ,WPL").cps.toList + 0); omega
  split
  · rw [Str.length_append, Str.length_append, Str.length_append, Str.length_append]; have := hexL_len (xorFrom 0 (Str.ofString "PXYZ" ++ wordN n ++ Str.ofString ",").cps.toList + 0); omega
  split
  · rw [Str.length_append, Str.length_append, Str.length_append, Str.length_append]; have := hexT_len (xorFrom 0 (Str.ofString "GPWPL," ++ wordN n).cps.toList + (1 + (n.fdiv 8).fmod 255)); omega
  split
  · rw [Str.length_append, Str.length_append, Str.length_append, Str.length_append]; have := hexT_len (xorFrom 0 (Str.ofString "GPZZZ," ++ wordN n).cps.toList + 0); omega
  split
  · omega
  · rw [Str.length_append, Str.length_append]; omega
theorem strs_rel {g : Nat → Str} : ∀ {n : Nat} {ys : List Value}, ys.length = n → (∀ i y, ys[i]? = some y → ∃ t, y = Value.str (g i) t) → StrsAre ys ((List.range n).map g)
  | n, ys, hl, h => by
    induction n generalizing ys g with
    | zero =>
      cases ys with
      | nil => exact .nil
      | cons a r => cases hl
    | succ n ih =>
      cases ys with
      | nil => cases hl
      | cons a r =>
        obtain ⟨t, rfl⟩ := h 0 a rfl
        rw [List.range_succ_eq_map, List.map_cons, List.map_map]
        exact .cons _ _ (ih (g := g ∘ Nat.succ) r (by simpa using hl) fun i y hy => h (i + 1) y (by simpa using hy))
theorem datAll_rel {nl : List (Addr × Obj)} {g : Nat → Dat} : ∀ {n : Nat} {ys : List Value}, ys.length = n → (∀ i y, ys[i]? = some y → DatIn nl y (g i)) → DatAll nl ys ((List.range n).map g)
  | n, ys, hl, h => by
    induction n generalizing ys g with
    | zero =>
      cases ys with
      | nil => exact .nil
      | cons a r => cases hl
    | succ n ih =>
      cases ys with
      | nil => cases hl
      | cons a r =>
        rw [List.range_succ_eq_map, List.map_cons, List.map_map]
        exact .cons (h 0 a rfl) (ih (g := g ∘ Nat.succ) r (by simpa using hl) fun i y hy => h (i + 1) y (by simpa using hy))
theorem range_map_getD {α β : Type} (ns : List α) (d : α) (f : α → β) : (List.range ns.length).map (fun i => f (ns.getD i d)) = ns.map f := by
  apply List.ext_getElem
  · simp
  · intro i h1 h2
    simp at h1
    simp [List.getD, h1]
theorem sum_le {α : Type} (f : α → Nat) (b : Nat) (h : ∀ a, f a ≤ b) : ∀ l : List α, (l.map f).sum ≤ l.length * b
  | [] => by simp
  | a :: r => by
    have := sum_le f b h r
    have := h a
    simp only [List.map_cons, List.sum_cons, List.length_cons]
    have e : (r.length + 1) * b = r.length * b + b := by rw [Nat.add_mul]; omega
    omega
def numsL (ks : List Int) : List Int := if ks = [] then [0] else eachL ks 0 14
theorem numsL_len (ks : List Int) : (numsL ks).length ≤ 7 := by
  unfold numsL
  split
  · simp
  · unfold eachL cnt2
    rw [List.length_map, List.length_range]
    split <;> split <;> omega
end Mine
end
-- Slt
section
local macro_rules | `(tactic| walk_at "mine no such step") => `(tactic| skip)
local macro_rules | `(tactic| walk_at "mine no such step") => `(tactic| skip)
local macro_rules | `(tactic| walk_at "mine no such step") => `(tactic| skip)
local macro_rules | `(tactic| walk_at "mine no such step") => `(tactic| skip)
local macro_rules | `(tactic| walk_at "mine no such step") => `(tactic| skip)
local macro_rules | `(tactic| walk_at "mine no such step") => `(tactic| skip)
local macro_rules | `(tactic| walk_at "mine no such step") => `(tactic| skip)
local macro_rules | `(tactic| walk_at "mine no such step") => `(tactic| skip)
local macro_rules | `(tactic| walk_at "mine no such step") => `(tactic| skip)
local macro_rules | `(tactic| walk_at "mine no such step") => `(tactic| skip)
local macro_rules | `(tactic| walk_at "mine no such step") => `(tactic| skip)
local macro_rules | `(tactic| walk_at "mine no such step") => `(tactic| skip)
local macro_rules | `(tactic| walk_at "mine no such step") => `(tactic| skip)
local macro_rules | `(tactic| walk_at "mine no such step") => `(tactic| skip)
local macro_rules | `(tactic| walk_at "mine no such step") => `(tactic| skip)
local macro_rules | `(tactic| walk_at "mine no such step") => `(tactic| skip)
local macro_rules | `(tactic| walk_at "mine no such step") => `(tactic| skip)
local macro_rules | `(tactic| walk_at "mine no such step") => `(tactic| skip)
local macro_rules | `(tactic| walk_at "mine no such step") => `(tactic| skip)
local macro_rules | `(tactic| walk_at "mine no such step") => `(tactic| skip)
local macro_rules | `(tactic| walk_at "mine no such step") => `(tactic| skip)
local macro_rules | `(tactic| walk_at "mine no such step") => `(tactic| skip)
local macro_rules | `(tactic| walk_at "mine no such step") => `(tactic| skip)
local macro_rules | `(tactic| walk_at "mine no such step") => `(tactic| skip)
local macro_rules | `(tactic| walk_at "mine no such step") => `(tactic| skip)
local macro_rules | `(tactic| walk_at "mine no such step") => `(tactic| skip)
local macro_rules | `(tactic| walk_at "mine no such step") => `(tactic| skip)
local macro_rules | `(tactic| walk_at "mine no such step") => `(tactic| skip)
local macro_rules | `(tactic| walk_at "mine no such step") => `(tactic| skip)
local macro_rules | `(tactic| walk_at "mine no such step") => `(tactic| skip)
local macro_rules | `(tactic| walk_at "mine no such step") => `(tactic| skip)
local macro_rules | `(tactic| walk_at "mine no such step") => `(tactic| skip)
local macro_rules | `(tactic| walk_at "mine no such step") => `(tactic| skip)
local macro_rules | `(tactic| walk_at "mine no such step") => `(tactic| skip)
local macro_rules | `(tactic| walk_at "mine no such step") => `(tactic| skip)
local macro_rules | `(tactic| walk_at "mine no such step") => `(tactic| skip)
local macro_rules | `(tactic| walk_at "mine no such step") => `(tactic| skip)
local macro_rules | `(tactic| walk_at "mine no such step") => `(tactic| skip)
local macro_rules | `(tactic| walk_at "mine no such step") => `(tactic| skip)
local macro_rules | `(tactic| walk_at "mine no such step") => `(tactic| skip)
open PySem PySem.W PyProof.Rows
namespace Mine
theorem slice_cps_to {x : Str} {k : Int} (h : 0 ≤ k) : (Txt.slice x none (some k)).cps.toList = x.cps.toList.take k.toNat := by
  by_cases q : k ≤ (x.length : Int)
  · have hl : x.cps.toList.length = x.length := by simp [Str.length]
    rw [beq_iff_eq.mp (slice_closes_to (x := x) (j := k) ⟨h, by rw [hl]; exact q⟩)]
    simp
  · have e : Txt.slice x none (some k) = Txt.slice x none (some (x.length : Int)) := by
      unfold Txt.slice
      have h0 : ¬ k < 0 := by omega
      have h1 : ¬ ((x.length : Int) < 0) := by omega
      have h2 : (1 : Int) > 0 := by decide
      have h3 : (x.length : Int) ≤ k := by omega
      simp only [Builtin.Str.strSliceIndices, h0, h1, h2, if_false, if_true, Int.min_eq_right h3, Int.min_self]
    have hl : x.cps.toList.length = x.length := by simp [Str.length]
    rw [e, beq_iff_eq.mp (slice_closes_to (x := x) (j := (x.length : Int)) ⟨by omega, by rw [hl]; exact Int.le_refl _⟩)]
    have : x.cps.toList.length ≤ k.toNat := by omega
    rw [List.take_of_length_le this]
    simp [← hl]
    exact List.take_of_length_le (by simp)
theorem slice_cps_from {x : Str} {k : Int} (h : 0 ≤ k) : (Txt.slice x (some k) none).cps.toList = x.cps.toList.drop k.toNat := by
  have hl : x.cps.toList.length = x.length := by simp [Str.length]
  by_cases q : k ≤ (x.length : Int)
  · rw [slice_from_eq (b := (x.length : Int)) h q rfl]
    simp only
    rw [List.take_of_length_le (by rw [List.length_drop]; omega)]
  · rw [slice_beyond (by omega), List.drop_eq_nil_of_le (by omega)]
    rfl
theorem str_cps {x y : Str} (h : x.cps.toList = y.cps.toList) : x = y := by
  cases x; cases y; simp only [Str.mk.injEq]; exact Array.toList_inj.mp h
theorem app_cps (x y : Str) : (x ++ y).cps.toList = x.cps.toList ++ y.cps.toList := by
  rw [show (x ++ y).cps = x.cps ++ y.cps from rfl, Array.toList_append]
theorem slice_both (x : Str) {k : Int} (h : 0 ≤ k) : Txt.slice x none (some k) ++ Txt.slice x (some k) none = x :=
  str_cps (by rw [app_cps, slice_cps_to h, slice_cps_from h, List.take_append_drop])
end Mine
end
-- Crt
section
set_option linter.all false
open PySem PySem.W PyProof.Rows PySem.Calls PySem.Spec LCg
namespace Mine
section
variable {prog : Program} {w : World} {A : Around} {E : Value → Shared → Prop} {s : Shared} {h₀ : Heap} {L : Addr} {m : Str → Option Value} {env : Env}
def TupAt (ax : Addr) (its : Array Value) (news : List (Addr × Obj)) : Prop := ∃ o, (ax, o) ∈ news ∧ o.cls = .type "tuple" ∧ ∃ n, o.data = .seq its n
theorem TupAt.tup {h : Heap} {ax : Addr} {its : Array Value} {news : List (Addr × Obj)} (x : TupAt ax its news) (N : News h₀ L h news) : h.IsTuple ax its := by
  obtain ⟨o, hm, r⟩ := x
  exact ⟨o, (N _ hm).1, r⟩
theorem tup_st {ax I : Addr} {its : Array Value} : ∀ i (h h' : Heap) (o : Obj) (nw : List (Addr × Obj)), (h.IsTupleIter I ax i ∧ h.IsTuple ax its) → h.get? I = some o → h'.get? I = some o → (∀ b o, h₀.get? b = some o → h'.get? b = some o) → News h₀ L h' nw → TupAt ax its nw → (h'.IsTupleIter I ax i ∧ h'.IsTuple ax its) :=
  fun i h h' o nw st e e' k N S => ⟨by obtain ⟨o', q, r⟩ := st.1; rw [e] at q; cases q; exact ⟨o, e', r⟩, S.tup N⟩
def SrcT (prog : Program) (w : World) (A : Around) (h₀ : Heap) (L : Addr) (m : Str → Option Value) (env : Env) (elt : Expr) (x : Str) (scope : Scope) (cl : List (Str × Addr)) (Fin : Shared → List Value → List (Addr × Obj) → Prop) (xv : Value) (s₁ : Shared) : Prop :=
  ∃ ax its news, xv = .ref ax ∧ A.handled = none ∧ Fr h₀ L s₁.heap m ∧ News h₀ L s₁.heap news ∧ TupAt ax its news ∧ its.size ≤ sizeLine ∧
    ∀ s₂ : Shared, (∃ h, s₂ = { s₁ with heap := h }) → CompRest prog w A h₀ L m env elt x scope cl s₂ (TupAt ax its) (fun i v => its[i]? = some v) (Fin s₂) its.size 0 [] news
theorem SrcT.at {elt : Expr} {x : Str} {scope : Scope} {cl : List (Str × Addr)} {Fin : Shared → List Value → List (Addr × Obj) → Prop} {ax : Addr} {its : Array Value} {o : Obj} {k : Nat} {news : List (Addr × Obj)} {s₁ : Shared}
    (hh : A.handled = none) (F : Fr h₀ L s₁.heap m) (N : News h₀ L s₁.heap news) (hm : (ax, o) ∈ news) (ho : o.cls = .type "tuple") (hd : o.data = .seq its k) (hsz : its.size ≤ sizeLine)
    (h : ∀ g, CompRest prog w A h₀ L m env elt x scope cl { s₁ with heap := g } (TupAt ax its) (fun i v => its[i]? = some v) (Fin { s₁ with heap := g }) its.size 0 [] news) :
    SrcT prog w A h₀ L m env elt x scope cl Fin (.ref ax) s₁ := ⟨ax, its, news, rfl, hh, F, N, ⟨_, hm, ho, _, hd⟩, hsz, fun _ ⟨g, e⟩ => e ▸ h g⟩
/-- a name is given a list comprehension over a tuple -/
theorem Assign_ListComp_T {elt iter : Expr} {x y : Str} {px py : Pos} {scope : Scope} {cl : List (Str × Addr)} {pos spos : Pos} {Q : Flow → Shared → Prop} (F₀ : Fr h₀ L s.heap m) (hLe : env.locals = L)
    (hsw : swapsWith (.ListComp elt [⟨.Name x px, iter, [], 0⟩] scope pos) (some (.Name y py)) spos.line env = pure true)
    (hclos : closureFor scope env = pure cl) (hcell : ∀ z ∈ scope.names, z.2 ≠ .cell) (hkind : scope.kind = .function)
    (hnames : ∀ z ∈ scope.names, z.2 = .local → scope.names.lookup z.1 = some .local) (hx : scope.names.lookup x = some .local)
    (hy : env.kindOf y = some .local) (hp : (env.scope.kind == .class || (env.scope.kind == .module && env.locals != env.globals)) = false)
    (h : wpAny (model prog w) A (eval iter env) (SrcT prog w A h₀ L m env elt x scope cl (fun s₂ => FinA h₀ L m s₂ y Q)) E s)
    (hs : ∀ x, foldedSetIterable iter env x = pure x := by intro _; rfl) :
    wpAny (model prog w) A (exec (.Assign [.Name y py] (.ListComp elt [⟨.Name x px, iter, [], 0⟩] scope pos) spos) env) Q E s := by
  subst hLe
  rw [exec_Assign_Name_used _ _ _ _ hsw]
  refine wpAny_bind (wpAny_standAt (wpAny_bind ?_))
  show wpAny _ A (do let _ ← comprehension (.ListComp elt [⟨.Name x px, iter, [], 0⟩] scope pos) scope env _ (newList []) false (eval iter env) (some (assign (.Name y py) env))) _ _ s
  refine wpAny_bind (wpAny_mono (wpAny_comprehension_free (use := some (assign (.Name y py) env)) (Q := fun _ s' => Q .next s') rfl hs hclos hkind hnames
    (wpAny_mono h (fun xv s₁ h₁ => ?_) fun _ _ e => e)) (fun _ s' hq => wpAny_pure (wpAny_pure hq)) fun _ _ e => e)
  obtain ⟨ax, its, news, rfl, hh, F, N, S, hsz, R⟩ := h₁
  have hl := S.tup N
  have hlt : ax < s₁.heap.objs.size := by obtain ⟨_, e, _⟩ := hl; exact Heap.lt_size e
  refine wpAny_pyIter_tuple hl ?_
  have up : ∀ b o, s₁.heap.get? b = some o → (s₁.heap.push { cls := .type "tuple_iterator", data := .fields #[.ref ax, .int 0 0] }).get? b = some o := fun b o e => Heap.get?_push_of_some _ e
  refine block_U (Walks.tuple hh s₁.heap.objs.size ax (Nat.ne_of_lt hlt) its) hsz (fun i h st => by obtain ⟨o, e, _⟩ := st.1; exact ⟨o, e⟩) tup_st hcell hkind hx ⟨⟨_, Heap.get?_push_size _ rfl, rfl, rfl⟩, hl.push _⟩ (fun b hb => ?_)
    (F.keeps up) (N.grown up) (Nat.ne_of_lt F.ns.lt) (next_is_new F) (fun p hp => Nat.ne_of_lt (Heap.lt_size (N p hp).1)) S (R _ ⟨_, rfl⟩) ?_
  · show b < (s₁.heap.push _).objs.size
    rw [Heap.size_push]
    rcases List.mem_cons.mp hb with rfl | hb
    · exact Nat.lt_succ_self _
    · rw [List.mem_singleton.mp hb]; exact Nat.lt_succ_of_lt hlt
  · intro D C h' tk m' ys news' F' N' o1 hn hC₀ hD₀ hCL hDL hCD offC fin
    show wpAny _ A (assign (.Name y py) env (.ref D)) _ _ _
    refine wpAny_assign_Name (wpAny_storeName_local hy F'.ns (fun h₂ hn₂ hs₂ => ?_) hp)
    have hL₀ : h₀.get? env.locals = none := Heap.get?_none_of_le F'.above
    have F₂ : Fr h₀ env.locals h₂ (fun z => if z = y then some (.ref D) else m z) := ⟨hn₂, fun b o e => hs₂.extBut b o (fun q => by rw [q, hL₀] at e; cases e) (F'.keep b o e), F'.above⟩
    refine ⟨m', hn.sameBut hs₂ hCL, fun h'' hs'' => fin D h'' _ (F₂.change hs'' hCL hC₀) (fun p hp => ?_) o1⟩
    have z : h₂.get? p.1 = some p.2 := hs₂.extBut _ _ (N' p hp).2.1 (N' p hp).1
    refine ⟨hs''.extBut _ _ ?_ z, (N' p hp).2⟩
    rcases List.mem_cons.mp hp with rfl | hp
    · exact Ne.symm hCD
    · exact offC p hp
/-- the frame and the ledger behind a call that hides the frame alone -/
theorem fr_hide {h h' : Heap} {nl : List (Addr × Obj)} (F : Fr h₀ L h m) (N : News h₀ L h nl) (k : ∀ b o, b ≠ L → h.get? b = some o → h'.get? b = some o) (ns : h'.Ns L m) : Fr h₀ L h' m ∧ News h₀ L h' nl :=
  ⟨⟨ns, fun b o e => k b o (fun q => by rw [q, Heap.get?_none_of_le F.above] at e; cases e) (F.keep b o e), F.above⟩, fun p hp => ⟨k _ _ (N p hp).2.1 (N p hp).1, (N p hp).2⟩⟩
end
end Mine
end
-- Lx
section
local macro_rules | `(tactic| walk_at "mine no such step") => `(tactic| skip)
local macro_rules | `(tactic| walk_at "mine no such step") => `(tactic| skip)
local macro_rules | `(tactic| walk_at "mine no such step") => `(tactic| skip)
local macro_rules | `(tactic| walk_at "mine no such step") => `(tactic| skip)
local macro_rules | `(tactic| walk_at "mine no such step") => `(tactic| skip)
local macro_rules | `(tactic| walk_at "mine no such step") => `(tactic| skip)
local macro_rules | `(tactic| walk_at "mine no such step") => `(tactic| skip)
local macro_rules | `(tactic| walk_at "mine no such step") => `(tactic| skip)
local macro_rules | `(tactic| walk_at "mine no such step") => `(tactic| skip)
local macro_rules | `(tactic| walk_at "mine no such step") => `(tactic| skip)
local macro_rules | `(tactic| walk_at "mine no such step") => `(tactic| skip)
local macro_rules | `(tactic| walk_at "mine no such step") => `(tactic| skip)
local macro_rules | `(tactic| walk_at "mine no such step") => `(tactic| skip)
local macro_rules | `(tactic| walk_at "mine no such step") => `(tactic| skip)
local macro_rules | `(tactic| walk_at "mine no such step") => `(tactic| skip)
local macro_rules | `(tactic| walk_at "mine no such step") => `(tactic| skip)
local macro_rules | `(tactic| walk_at "mine no such step") => `(tactic| skip)
local macro_rules | `(tactic| walk_at "mine no such step") => `(tactic| skip)
local macro_rules | `(tactic| walk_at "mine no such step") => `(tactic| skip)
local macro_rules | `(tactic| walk_at "mine no such step") => `(tactic| skip)
local macro_rules | `(tactic| walk_at "mine no such step") => `(tactic| skip)
local macro_rules | `(tactic| walk_at "mine no such step") => `(tactic| skip)
local macro_rules | `(tactic| walk_at "mine no such step") => `(tactic| skip)
local macro_rules | `(tactic| walk_at "mine no such step") => `(tactic| skip)
local macro_rules | `(tactic| walk_at "mine no such step") => `(tactic| skip)
local macro_rules | `(tactic| walk_at "mine no such step") => `(tactic| skip)
local macro_rules | `(tactic| walk_at "mine no such step") => `(tactic| skip)
local macro_rules | `(tactic| walk_at "mine no such step") => `(tactic| skip)
local macro_rules | `(tactic| walk_at "mine no such step") => `(tactic| skip)
local macro_rules | `(tactic| walk_at "mine no such step") => `(tactic| skip)
local macro_rules | `(tactic| walk_at "mine no such step") => `(tactic| skip)
local macro_rules | `(tactic| walk_at "mine no such step") => `(tactic| skip)
local macro_rules | `(tactic| walk_at "mine no such step") => `(tactic| skip)
local macro_rules | `(tactic| walk_at "mine no such step") => `(tactic| skip)
local macro_rules | `(tactic| walk_at "mine no such step") => `(tactic| skip)
local macro_rules | `(tactic| walk_at "mine no such step") => `(tactic| skip)
local macro_rules | `(tactic| walk_at "mine no such step") => `(tactic| skip)
local macro_rules | `(tactic| walk_at "mine no such step") => `(tactic| skip)
local macro_rules | `(tactic| walk_at "mine no such step") => `(tactic| skip)
local macro_rules | `(tactic| walk_at "mine no such step") => `(tactic| skip)
open PySem PySem.W PyProof.Rows
set_option linter.all false
namespace Mine
abbrev nlS : Str := Str.ofString "\n"
theorem nlS_eq : nlS = ⟨#[10]⟩ := by decide +kernel
def Free (x : Str) : Prop := 10 ∉ x.cps.toList
theorem cut_inj {c : Nat} : ∀ {a b r t : List Nat}, c ∉ a → c ∉ b → a ++ c :: r = b ++ c :: t → a = b ∧ r = t
  | [], [], _, _, _, _, h => by simpa using h
  | [], y :: b, _, _, _, hb, h => by
    simp only [List.nil_append, List.cons_append, List.cons.injEq] at h
    exact absurd (h.1 ▸ List.mem_cons_self ..) hb
  | x :: a, [], _, _, ha, _, h => by
    simp only [List.nil_append, List.cons_append, List.cons.injEq] at h
    exact absurd (h.1.symm ▸ List.mem_cons_self ..) ha
  | x :: a, y :: b, _, _, ha, hb, h => by
    simp only [List.cons_append, List.cons.injEq] at h
    have := cut_inj (fun q => ha (List.mem_cons_of_mem _ q)) (fun q => hb (List.mem_cons_of_mem _ q)) h.2
    exact ⟨by rw [h.1, this.1], this.2⟩
theorem join_two (s x y : Str) (r : List Str) : Str.join s (x :: y :: r) = x ++ s ++ Str.join s (y :: r) := rfl
theorem join_cps2 (x y : Str) (r : List Str) : (Str.join nlS (x :: y :: r)).cps.toList = x.cps.toList ++ 10 :: (Str.join nlS (y :: r)).cps.toList := by
  rw [join_two, app_cps, app_cps, show nlS.cps.toList = [10] by rw [nlS_eq], List.append_assoc]; rfl
def FreeC (c : Nat) (x : Str) : Prop := c ∉ x.cps.toList
theorem join_cpsC (c : Nat) (x y : Str) (r : List Str) : (Str.join ⟨#[c]⟩ (x :: y :: r)).cps.toList = x.cps.toList ++ c :: (Str.join ⟨#[c]⟩ (y :: r)).cps.toList := by
  rw [join_two, app_cps, app_cps, List.append_assoc]; rfl
theorem join_injC (c : Nat) : ∀ {a b : List Str}, a ≠ [] → b ≠ [] → (∀ p ∈ a, FreeC c p) → (∀ p ∈ b, FreeC c p) → Str.join ⟨#[c]⟩ a = Str.join ⟨#[c]⟩ b → a = b
  | [], _, h, _, _, _, _ => absurd rfl h
  | _ :: _, [], _, h, _, _, _ => absurd rfl h
  | [x], [y], _, _, _, _, h => by rw [show x = y from h]
  | [x], y :: z :: b, _, _, ha, _, h => by
    have h' := congrArg (fun t : Str => t.cps.toList) h
    rw [join_cpsC] at h'
    refine absurd ?_ (ha x (.head _))
    show c ∈ x.cps.toList
    rw [show x.cps.toList = _ from h']
    simp
  | x :: z :: a, [y], _, _, _, hb, h => by
    have h' := congrArg (fun t : Str => t.cps.toList) h
    rw [join_cpsC] at h'
    refine absurd ?_ (hb y (.head _))
    show c ∈ y.cps.toList
    rw [show y.cps.toList = _ from h'.symm]
    simp
  | x :: z :: a, y :: u :: b, _, _, ha, hb, h => by
    have h' := congrArg (fun t : Str => t.cps.toList) h
    rw [join_cpsC, join_cpsC] at h'
    obtain ⟨e1, e2⟩ := cut_inj (ha x (.head _)) (hb y (.head _)) h'
    rw [str_cps e1, join_injC c (a := z :: a) (b := u :: b) (by simp) (by simp) (fun p hp => ha p (.tail _ hp)) (fun p hp => hb p (.tail _ hp)) (str_cps e2)]
theorem split_two {x y : Str} {c : Nat} (hx : FreeC c x) (hy : FreeC c y) : Txt.split (x ++ ⟨#[c]⟩ ++ y) ⟨#[c]⟩ = [x, y] := by
  have fu := StrLaws.split_free (x ++ ⟨#[c]⟩ ++ y) c
  have ju := StrLaws.join_split (x ++ ⟨#[c]⟩ ++ y) ⟨#[c]⟩
  have lu := (fact_split (x ++ ⟨#[c]⟩ ++ y) ⟨#[c]⟩).1
  refine join_injC c (by intro q; rw [q] at lu; cases lu) (by simp) fu (fun p hp => ?_) ju
  simp only [List.mem_cons, List.not_mem_nil, or_false] at hp
  rcases hp with rfl | rfl
  · exact hx
  · exact hy
theorem join_inj : ∀ {a b : List Str}, a ≠ [] → b ≠ [] → (∀ p ∈ a, Free p) → (∀ p ∈ b, Free p) → Str.join nlS a = Str.join nlS b → a = b
  | [], _, h, _, _, _, _ => absurd rfl h
  | _ :: _, [], _, h, _, _, _ => absurd rfl h
  | [x], [y], _, _, _, _, h => by rw [show x = y from h]
  | [x], y :: z :: b, _, _, ha, _, h => by
    have h' := congrArg (fun t : Str => t.cps.toList) h
    rw [join_cps2] at h'
    refine absurd ?_ (ha x (.head _))
    show 10 ∈ x.cps.toList
    rw [show x.cps.toList = _ from h']
    simp
  | x :: z :: a, [y], _, _, _, hb, h => by
    have h' := congrArg (fun t : Str => t.cps.toList) h
    rw [join_cps2] at h'
    refine absurd ?_ (hb y (.head _))
    show 10 ∈ y.cps.toList
    rw [show y.cps.toList = _ from h'.symm]
    simp
  | x :: z :: a, y :: u :: b, _, _, ha, hb, h => by
    have h' := congrArg (fun t : Str => t.cps.toList) h
    rw [join_cps2, join_cps2] at h'
    obtain ⟨e1, e2⟩ := cut_inj (ha x (.head _)) (hb y (.head _)) h'
    rw [str_cps e1, join_inj (a := z :: a) (b := u :: b) (by simp) (by simp) (fun p hp => ha p (.tail _ hp)) (fun p hp => hb p (.tail _ hp)) (str_cps e2)]
theorem join_glue (x y : Str) (B : List Str) : ∀ A : List Str, Str.join nlS (A ++ [x]) ++ Str.join nlS (y :: B) = Str.join nlS (A ++ (x ++ y) :: B)
  | [] => by
    cases B with
    | nil => rfl
    | cons b B =>
      refine str_cps ?_
      simp only [List.nil_append]
      rw [app_cps, join_cps2, join_cps2, app_cps]
      show x.cps.toList ++ _ = _
      rw [List.append_assoc]
  | [a] => by
    have := join_glue x y B []
    refine str_cps ?_
    show (Str.join nlS (a :: x :: []) ++ Str.join nlS (y :: B)).cps.toList = (Str.join nlS (a :: (x ++ y) :: B)).cps.toList
    rw [app_cps, join_cps2, join_cps2, List.append_assoc, List.cons_append, ← app_cps]
    rw [show Str.join nlS [x] ++ Str.join nlS (y :: B) = Str.join nlS ((x ++ y) :: B) from this]
  | a :: a2 :: A => by
    have := join_glue x y B (a2 :: A)
    refine str_cps ?_
    show (Str.join nlS (a :: a2 :: (A ++ [x])) ++ Str.join nlS (y :: B)).cps.toList = (Str.join nlS (a :: a2 :: (A ++ (x ++ y) :: B))).cps.toList
    rw [app_cps, join_cps2, join_cps2, List.append_assoc, List.cons_append, ← app_cps]
    rw [show Str.join nlS (a2 :: (A ++ [x])) ++ Str.join nlS (y :: B) = Str.join nlS (a2 :: (A ++ (x ++ y) :: B)) from this]
theorem join_cnt (x : Str) (hx : Free x) : ∀ A : List Str, (∀ p ∈ A, Free p) → cnt 10 (Str.join nlS (A ++ [x])).cps.toList = (A.length : Int)
  | [], _ => cnt_none _ _ hx
  | [a], h => by
    show cnt 10 (Str.join nlS (a :: x :: [])).cps.toList = _
    rw [join_cps2, cnt_append, cnt_none _ _ (h a (.head _)), cnt_cons, if_pos rfl, show cnt 10 (Str.join nlS [x]).cps.toList = 0 from cnt_none _ _ hx]
    rfl
  | a :: b :: A, h => by
    have ih := join_cnt x hx (b :: A) fun p hp => h p (.tail _ hp)
    show cnt 10 (Str.join nlS (a :: b :: (A ++ [x]))).cps.toList = _
    rw [join_cps2, cnt_append, cnt_none _ _ (h a (.head _)), cnt_cons, if_pos rfl, show cnt 10 (Str.join nlS (b :: (A ++ [x]))).cps.toList = _ from ih]
    simp only [List.length_cons]
    omega
theorem split_step {u v : Str} {M : List Str} (hM : ∀ p ∈ M, Free p) (hne : M ≠ []) (h : u ++ v = Str.join nlS M) :
    ∃ k bf, k < M.length ∧ Txt.split u nlS = M.take k ++ [bf] ∧ Free bf ∧ bf ++ v = Str.join nlS (M.drop k) ∧ cnt 10 u.cps.toList = (k : Int) := by
  have fu : ∀ p ∈ Txt.split u nlS, Free p := by rw [nlS_eq]; exact StrLaws.split_free u 10
  have fv : ∀ p ∈ Txt.split v nlS, Free p := by rw [nlS_eq]; exact StrLaws.split_free v 10
  have ju := StrLaws.join_split u nlS
  have jv := StrLaws.join_split v nlS
  have lu := (fact_split u nlS).1
  have lv := (fact_split v nlS).1
  generalize Txt.split u nlS = S at *
  generalize Txt.split v nlS = V at *
  obtain ⟨A, bf, rfl⟩ : ∃ A bf, S = A ++ [bf] := ⟨S.dropLast, S.getLast (by intro q; rw [q] at lu; cases lu), (List.dropLast_concat_getLast _).symm⟩
  cases V with
  | nil => cases lv
  | cons v0 vs =>
    have fb : Free bf := fu bf (by simp)
    have e : Str.join nlS (A ++ (bf ++ v0) :: vs) = Str.join nlS M := by rw [← join_glue, ju, jv, h]
    have eM : A ++ (bf ++ v0) :: vs = M := join_inj (by simp) hne (fun p hp => by
      rcases List.mem_append.mp hp with hp | hp
      · exact fu p (List.mem_append_left _ hp)
      rcases List.mem_cons.mp hp with rfl | hp
      · show 10 ∉ (bf ++ v0).cps.toList
        rw [app_cps, List.mem_append, not_or]
        exact ⟨fb, fv v0 (.head _)⟩
      · exact fv p (.tail _ hp)) hM e
    subst eM
    refine ⟨A.length, bf, by simp, by simp, fb, ?_, ?_⟩
    · rw [List.drop_left]
      have := join_glue bf v0 vs []
      rw [List.nil_append, List.nil_append, jv] at this
      exact this
    · have := join_cnt bf fb A fun p hp => fu p (List.mem_append_left _ hp)
      rw [ju] at this
      exact this
theorem join_end (A : List Str) (h : A ≠ []) : Str.join nlS A ++ nlS = Str.join nlS (A ++ [Str.empty]) := by
  obtain ⟨B, x, rfl⟩ : ∃ B x, A = B ++ [x] := ⟨A.dropLast, A.getLast h, (List.dropLast_concat_getLast h).symm⟩
  have := join_glue x Str.empty [Str.empty] B
  have e : Str.join nlS [Str.empty, Str.empty] = nlS := by decide +kernel
  rw [e] at this
  rw [this, List.append_assoc, show x ++ Str.empty = x from Str.append_empty x]
  rfl
end Mine
end
-- Lm
section
open PySem PySem.W PyProof.Rows LCg
set_option maxRecDepth 100000
set_option linter.all false
namespace Mine
abbrev lmap (Ls To Du Rs : Addr) (m0 : Str → Option Value) (pl : Int) (tl : Tok) (opi ole oon oo ore owa : Option Value) : Str → Option Value := fun y =>
  if y = Str.ofString "way" then owa else if y = Str.ofString "reader" then ore else if y = Str.ofString "one" then oo else if y = Str.ofString "ones" then oon else if y = Str.ofString "lean" then ole else if y = Str.ofString "piece" then opi else if y = Str.ofString "place" then some (.int pl tl) else
  if y = Str.ofString "readers" then some (.ref Rs) else if y = Str.ofString "due" then some (.ref Du) else if y = Str.ofString "told" then some (.ref To) else if y = Str.ofString "lines" then some (.ref Ls) else m0 y
section
variable {Ls To Du Rs : Addr} {m0 : Str → Option Value} {pl pl' : Int} {tl tl' : Tok} {opi ole oon oo ore owa u v : Option Value}
theorem lmap_pair (y : Str) : (if y = Str.ofString "lean" then v else (fun y => if y = Str.ofString "piece" then u else lmap Ls To Du Rs m0 pl tl opi ole oon oo ore owa y) y) = lmap Ls To Du Rs m0 pl tl u v oon oo ore owa y := by
  by_cases q : y = Str.ofString "lean"
  · subst q; rfl
  by_cases q2 : y = Str.ofString "piece"
  · subst q2; rfl
  · unfold lmap; simp only [if_neg q, if_neg q2]
theorem lmap_rw (y : Str) : (if y = Str.ofString "way" then v else (fun y => if y = Str.ofString "reader" then u else lmap Ls To Du Rs m0 pl tl opi ole oon oo ore owa y) y) = lmap Ls To Du Rs m0 pl tl opi ole oon oo u v y := by
  by_cases q : y = Str.ofString "way"
  · subst q; rfl
  by_cases q2 : y = Str.ofString "reader"
  · subst q2; rfl
  · unfold lmap; simp only [if_neg q, if_neg q2]
theorem lmap_ones (y : Str) : (if y = Str.ofString "ones" then u else lmap Ls To Du Rs m0 pl tl opi ole oon oo ore owa y) = lmap Ls To Du Rs m0 pl tl opi ole u oo ore owa y := by
  by_cases q : y = Str.ofString "ones"
  · subst q; rfl
  · unfold lmap; simp only [if_neg q]
theorem lmap_one (y : Str) : (if y = Str.ofString "one" then u else lmap Ls To Du Rs m0 pl tl opi ole oon oo ore owa y) = lmap Ls To Du Rs m0 pl tl opi ole oon u ore owa y := by
  by_cases q : y = Str.ofString "one"
  · subst q; rfl
  · unfold lmap; simp only [if_neg q]
theorem lmap_place (y : Str) : (if y = Str.ofString "place" then some (.int pl' tl') else lmap Ls To Du Rs m0 pl tl opi ole oon oo ore owa y) = lmap Ls To Du Rs m0 pl' tl' opi ole oon oo ore owa y := by
  by_cases q : y = Str.ofString "place"
  · subst q; rfl
  · unfold lmap; simp only [if_neg q]
end
/-- the objects that stay as they are, beside those that turn -/
structure Ent (g : Heap) (mv : List Addr) (stat : List (Addr × Obj)) (h : Heap) : Prop where
  st : g.StaysIn h
  on : ∀ p ∈ stat, h.get? p.1 = some p.2
  new : ∀ p ∈ stat, g.get? p.1 = none
  off : ∀ p ∈ stat, p.1 ∉ mv
  alive : ∀ b ∈ mv, (∃ o, h.get? b = some o) ∧ g.get? b = none
theorem Ent.step {g h h' : Heap} {mv : List Addr} {stat nl : List (Addr × Obj)} (x : Ent g mv stat h) (k : ∀ b o, b ∉ mv → h.get? b = some o → h'.get? b = some o) (al : ∀ b ∈ mv, ∃ o, h'.get? b = some o) (st : g.StaysIn h') (hn : ∀ p ∈ nl, h'.get? p.1 = some p.2 ∧ h.get? p.1 = none) : Ent g mv (nl ++ stat) h' := by
  refine ⟨st, fun p hp => ?_, fun p hp => ?_, fun p hp => ?_, fun b hb => ⟨al b hb, (x.alive b hb).2⟩⟩
  · rcases List.mem_append.mp hp with hp | hp
    · exact (hn p hp).1
    · exact k _ _ (x.off p hp) (x.on p hp)
  · rcases List.mem_append.mp hp with hp | hp
    · exact none_of_stays x.st (hn p hp).2
    · exact x.new p hp
  · rcases List.mem_append.mp hp with hp | hp
    · intro q
      obtain ⟨o, e⟩ := (x.alive _ q).1
      rw [(hn p hp).2] at e; cases e
    · exact x.off p hp
theorem Ent.more {g h : Heap} {mv : List Addr} {stat : List (Addr × Obj)} (x : Ent g mv stat h) {I : Addr} {o : Obj} (hI : h.get? I = some o) (gI : g.get? I = none) (n : ∀ p ∈ stat, p.1 ≠ I) : Ent g (I :: mv) stat h :=
  ⟨x.st, x.on, x.new, fun p hp q => by
    rcases List.mem_cons.mp q with q | q
    · exact n p hp q
    · exact x.off p hp q, fun b hb => by
    rcases List.mem_cons.mp hb with rfl | hb
    · exact ⟨⟨o, hI⟩, gI⟩
    · exact x.alive b hb⟩
theorem Ent.less {g h : Heap} {mv : List Addr} {stat : List (Addr × Obj)} {I : Addr} (x : Ent g (I :: mv) stat h) : Ent g mv stat h ∧ ∀ p ∈ stat, p.1 ≠ I :=
  ⟨⟨x.st, x.on, x.new, fun p hp q => x.off p hp (.tail _ q), fun b hb => x.alive b (.tail _ hb)⟩, fun p hp q => x.off p hp (q ▸ .head _)⟩
def wayN : Nat → Str
  | 0 => Str.ofString "raise"
  | 1 => Str.ofString "yield"
  | _ => Str.ofString "ignore"
theorem wayN_in (k : Nat) : wayN k = Str.ofString "raise" ∨ wayN k = Str.ofString "yield" ∨ wayN k = Str.ofString "ignore" := by
  match k with
  | 0 => exact .inl rfl
  | 1 => exact .inr (.inl rfl)
  | _ + 2 => exact .inr (.inr rfl)
def pick3 {α : Type} (a b c : α) : Nat → α
  | 0 => a
  | 1 => b
  | _ => c
/-- the lists of what is told and due, and the readers -/
structure LSt (P : Params) (Dk : Nat → Addr) (Du To : Addr) (stat : List (Addr × Obj)) (bufs : Nat → Str) (datD datT : List Dat) (h : Heap) : Prop where
  rds : ∀ k, k < 3 → IsRd P (wayN k) (bufs k) h (Dk k)
  due : ∃ us n, h.get? Du = some (W.listOf us.toArray n) ∧ DatAll stat us datD
  told : ∃ ts n, h.get? To = some (W.listOf ts.toArray n) ∧ DatAll stat ts datT
theorem LSt.keep {P : Params} {Dk : Nat → Addr} {Du To : Addr} {stat stat' : List (Addr × Obj)} {bufs : Nat → Str} {datD datT : List Dat} {h h' : Heap} (x : LSt P Dk Du To stat bufs datD datT h) (kD : ∀ k, k < 3 → ∀ o, h.get? (Dk k) = some o → h'.get? (Dk k) = some o) (kd : ∀ o, h.get? Du = some o → h'.get? Du = some o) (kt : ∀ o, h.get? To = some o → h'.get? To = some o) (hs : ∀ p ∈ stat, p ∈ stat') : LSt P Dk Du To stat' bufs datD datT h' := by
  obtain ⟨us, n, e1, e2⟩ := x.due
  obtain ⟨ts, n', e3, e4⟩ := x.told
  exact ⟨fun k hk => isRd_at (x.rds k hk) (kD k hk), ⟨us, n, kd _ e1, e2.mono hs⟩, ⟨ts, n', kt _ e3, e4.mono hs⟩⟩
def oN (n : Int) : One :=
  if n.fmod 8 = 0 then (Str.ofString "WPL", [dsS "GP", dsS "WPL", .list [.str (wordN n), dsS "N"]])
  else if n.fmod 8 = 1 then (Str.ofString "TXT", [dsS "II", dsS "TXT", .list [dsS "a", .str (manyS (wordN n) (n.fdiv 8) ++ cr (n.fdiv 8))]])
  else if n.fmod 8 = 2 then (Str.ofString "question", [dsS "CC", dsS "GP", dsS "WPL", .list []])
  else if n.fmod 8 = 3 then (Str.ofString "maker", [dsS "XYZ", .list [.str (wordN n), dsS ""]])
  else if n.fmod 8 = 4 then (Str.ofString "refused", [dsS "sum"])
  else if n.fmod 8 = 5 then (Str.ofString "refused", [dsS "kind"])
  else (Str.ofString "refused", [dsS "no sentence"])
theorem dxN_one (n : Int) : dxN n = oneD (oN n) := by
  unfold dxN lineDx oN wordN
  split; · rfl
  split; · rfl
  split; · rfl
  split; · rfl
  split; · rfl
  split; · rfl
  rfl
theorem oN_len (n : Int) : (oN n).2.length ≤ 5 := by
  unfold oN
  split; · simp
  split; · simp
  split; · simp
  split; · simp
  split; · simp
  split; · simp
  simp
def leanO (lean : Bool) (o : One) : One := if lean = true ∧ o.1 = Str.ofString "TXT" then (Str.ofString "refused", [dsS "kind"]) else o
theorem leanO_len {lean : Bool} {o : One} (h : o.2.length ≤ 5) : (leanO lean o).2.length ≤ 5 := by
  unfold leanO; split
  · decide
  · exact h
end Mine
namespace Mine
def catS : List Str → Str
  | [] => Str.empty
  | x :: r => x ++ catS r
def Plain (ns : List Int) (pcs : List (Str × Bool)) (i : Nat) (pl : Int) (buf : Str) : Prop :=
  Free buf ∧ ∃ pn : Nat, pl = (pn : Int) ∧ pn ≤ ns.length ∧ buf ++ catS ((pcs.drop i).map (·.1)) = Str.join nlS ((ns.drop pn).map txN ++ [Str.empty])
def DatOk (dat : List Dat) : Prop := ∀ d ∈ dat, kqdOk 8 d = true
def InvO (P : Params) (s : Shared) (g : Heap) (L Ls To Du Rs Pa : Addr) (m0 : Str → Option Value) (Dk : Nat → Addr) (mv : List Addr) (stat0 : List (Addr × Obj)) (n : Nat) (ns : List Int) (pcs : List (Str × Bool)) (I : Addr) (i : Nat) (s' : Shared) : Prop :=
  ∃ h' gens' tk' pl tl opi ole oon oo ore owa stat buf dat, s' = { s with heap := h', gens := gens', toks := tk' } ∧ (∀ x ∈ gens', x.bare = true) ∧ h'.Ns L (lmap Ls To Du Rs m0 pl tl opi ole oon oo ore owa) ∧ Ent g (I :: mv) stat h' ∧ (∀ p ∈ stat0, p ∈ stat) ∧
    LSt P Dk Du To stat (fun _ => buf) dat dat h' ∧ DatOk dat ∧ dat.length ≤ 5 + 6 * i ∧ h'.IsListIter I Pa i ∧ i ≤ n ∧ I ∉ mv ∧ Plain ns pcs i pl buf
def Fresh1 (a : Addr) (l : List (Addr × Obj)) : Prop := ∀ q ∈ l, @Ne Nat q.1 a
def PwN : Nat → List (Addr × Obj) → Prop
  | 0, _ => True
  | _ + 1, [] => True
  | n + 1, p :: r => Fresh1 p.1 r ∧ PwN n r
theorem PwN.at : ∀ {n : Nat} {l : List (Addr × Obj)} {i j : Nat} {p q : Addr × Obj}, PwN n l → i < j → i < n → l[i]? = some p → l[j]? = some q → @Ne Nat q.1 p.1
  | 0, _, _, _, _, _, _, _, h, _, _ => absurd h (Nat.not_lt_zero _)
  | _ + 1, [], _, _, _, _, _, _, _, h, _ => by simp at h
  | n + 1, a :: r, 0, j + 1, p, q, h, _, _, hi, hj => by
    cases hi
    exact h.1 q (List.mem_of_getElem? (by simpa using hj))
  | n + 1, a :: r, i + 1, j + 1, p, q, h, hij, hin, hi, hj => PwN.at h.2 (Nat.lt_of_succ_lt_succ hij) (Nat.lt_of_succ_lt_succ hin) (by simpa using hi) (by simpa using hj)
  | n + 1, a :: r, i, 0, p, q, h, hij, hin, hi, hj => absurd hij (Nat.not_lt_zero _)
theorem PwN.ne {n : Nat} {l : List (Addr × Obj)} {i j : Nat} {p q : Addr × Obj} (h : PwN n l) (hij : i ≠ j) (hn : i < n ∨ j < n) (hi : l[i]? = some p) (hj : l[j]? = some q) : @Ne Nat p.1 q.1 := by
  rcases Nat.lt_or_gt_of_ne hij with c | c
  · exact Ne.symm (h.at c (by omega) hi hj)
  · exact h.at c (by omega) hj hi
end Mine
namespace Mine
structure Muts (mv : List Addr) (L Du To : Addr) (Dk : Nat → Addr) : Prop where
  all : ∀ b, b ∈ mv ↔ b = L ∨ b = Du ∨ b = To ∨ ∃ k, k < 3 ∧ b = Dk k
  LDu : @Ne Nat L Du
  LTo : @Ne Nat L To
  DuTo : @Ne Nat Du To
  DL : ∀ k, k < 3 → @Ne Nat (Dk k) L
  DDu : ∀ k, k < 3 → @Ne Nat (Dk k) Du
  DTo : ∀ k, k < 3 → @Ne Nat (Dk k) To
  DD : ∀ j k, j < 3 → k < 3 → j ≠ k → @Ne Nat (Dk j) (Dk k)
theorem lt3 {k : Nat} (h : k < 3) : k = 0 ∨ k = 1 ∨ k = 2 := by omega
theorem start_ent {g h : Heap} {L Rs a3 R3 D3 a2 R2 D2 a1 R1 D1 Du To P : Addr} {m : Str → Option Value} {o0 o1 o2 oD3 o4 o5 oD2 o7 o8 oD1 oDu oTo oP : Obj} {oth : List (Addr × Obj)} (F : Fr g L h m)
    (N : News g L h ((Rs, o0) :: (a3, o1) :: (R3, o2) :: (D3, oD3) :: (a2, o4) :: (R2, o5) :: (D2, oD2) :: (a1, o7) :: (R1, o8) :: (D1, oD1) :: (Du, oDu) :: (To, oTo) :: (P, oP) :: oth))
    (pw : PwN 12 ((Rs, o0) :: (a3, o1) :: (R3, o2) :: (D3, oD3) :: (a2, o4) :: (R2, o5) :: (D2, oD2) :: (a1, o7) :: (R1, o8) :: (D1, oD1) :: (Du, oDu) :: (To, oTo) :: (P, oP) :: oth)) :
    Ent g [L, Du, To, D1, D2, D3] ((Rs, o0) :: (a3, o1) :: (R3, o2) :: (a2, o4) :: (R2, o5) :: (a1, o7) :: (R1, o8) :: (P, oP) :: oth) h ∧ Muts [L, Du, To, D1, D2, D3] L Du To (pick3 D1 D2 D3) := by
  generalize hLL : ((Rs, o0) :: (a3, o1) :: (R3, o2) :: (D3, oD3) :: (a2, o4) :: (R2, o5) :: (D2, oD2) :: (a1, o7) :: (R1, o8) :: (D1, oD1) :: (Du, oDu) :: (To, oTo) :: (P, oP) :: oth : List (Addr × Obj)) = LL at N pw
  have i3 : LL[3]? = some (D3, oD3) := by rw [← hLL]; rfl
  have i6 : LL[6]? = some (D2, oD2) := by rw [← hLL]; rfl
  have i9 : LL[9]? = some (D1, oD1) := by rw [← hLL]; rfl
  have i10 : LL[10]? = some (Du, oDu) := by rw [← hLL]; rfl
  have i11 : LL[11]? = some (To, oTo) := by rw [← hLL]; rfl
  have nm : ∀ {i p}, LL[i]? = some p → p ∈ LL := fun e => List.mem_of_getElem? e
  have pos : ∀ p ∈ ((Rs, o0) :: (a3, o1) :: (R3, o2) :: (a2, o4) :: (R2, o5) :: (a1, o7) :: (R1, o8) :: (P, oP) :: oth : List (Addr × Obj)), ∃ i, LL[i]? = some p ∧ i ≠ 3 ∧ i ≠ 6 ∧ i ≠ 9 ∧ i ≠ 10 ∧ i ≠ 11 := by
    intro p hp
    rw [← hLL]
    simp only [List.mem_cons] at hp
    rcases hp with rfl | rfl | rfl | rfl | rfl | rfl | rfl | rfl | hp
    · exact ⟨0, rfl, by decide⟩
    · exact ⟨1, rfl, by decide⟩
    · exact ⟨2, rfl, by decide⟩
    · exact ⟨4, rfl, by decide⟩
    · exact ⟨5, rfl, by decide⟩
    · exact ⟨7, rfl, by decide⟩
    · exact ⟨8, rfl, by decide⟩
    · exact ⟨12, rfl, by decide⟩
    · obtain ⟨k, hk⟩ := List.getElem?_of_mem hp
      exact ⟨k + 13, by simpa using hk, by omega⟩
  obtain ⟨oL, _, _, eL, _⟩ := F.ns
  have gL : g.get? L = none := none_above F.above
  refine ⟨⟨F.keep, fun p hp => ?_, fun p hp => ?_, fun p hp q => ?_, fun b hb => ?_⟩, ⟨fun b => ?_, ?_, ?_, ?_, ?_, ?_, ?_, ?_⟩⟩
  · obtain ⟨i, e, _⟩ := pos p hp
    exact (N p (nm e)).1
  · obtain ⟨i, e, _⟩ := pos p hp
    exact (N p (nm e)).2.2
  · obtain ⟨i, e, n3, n6, n9, n10, n11⟩ := pos p hp
    simp only [List.mem_cons, List.not_mem_nil, or_false] at q
    rcases q with q | q | q | q | q | q
    · exact (N p (nm e)).2.1 q
    · exact pw.ne n10 (.inr (by decide)) e i10 q
    · exact pw.ne n11 (.inr (by decide)) e i11 q
    · exact pw.ne n9 (.inr (by decide)) e i9 q
    · exact pw.ne n6 (.inr (by decide)) e i6 q
    · exact pw.ne n3 (.inr (by decide)) e i3 q
  · simp only [List.mem_cons, List.not_mem_nil, or_false] at hb
    rcases hb with rfl | rfl | rfl | rfl | rfl | rfl
    · exact ⟨⟨_, eL⟩, gL⟩
    · exact ⟨⟨_, (N _ (nm i10)).1⟩, (N _ (nm i10)).2.2⟩
    · exact ⟨⟨_, (N _ (nm i11)).1⟩, (N _ (nm i11)).2.2⟩
    · exact ⟨⟨_, (N _ (nm i9)).1⟩, (N _ (nm i9)).2.2⟩
    · exact ⟨⟨_, (N _ (nm i6)).1⟩, (N _ (nm i6)).2.2⟩
    · exact ⟨⟨_, (N _ (nm i3)).1⟩, (N _ (nm i3)).2.2⟩
  · simp only [List.mem_cons, List.not_mem_nil, or_false]
    constructor
    · rintro (q | q | q | q | q | q)
      · exact .inl q
      · exact .inr (.inl q)
      · exact .inr (.inr (.inl q))
      · exact .inr (.inr (.inr ⟨0, by decide, q⟩))
      · exact .inr (.inr (.inr ⟨1, by decide, q⟩))
      · exact .inr (.inr (.inr ⟨2, by decide, q⟩))
    · rintro (q | q | q | ⟨k, hk, q⟩)
      · exact .inl q
      · exact .inr (.inl q)
      · exact .inr (.inr (.inl q))
      · rcases lt3 hk with rfl | rfl | rfl
        · exact .inr (.inr (.inr (.inl q)))
        · exact .inr (.inr (.inr (.inr (.inl q))))
        · exact .inr (.inr (.inr (.inr (.inr q))))
  · exact Ne.symm (N _ (nm i10)).2.1
  · exact Ne.symm (N _ (nm i11)).2.1
  · exact pw.ne (by decide) (.inl (by decide)) i10 i11
  · intro k hk
    rcases lt3 hk with rfl | rfl | rfl
    · exact (N _ (nm i9)).2.1
    · exact (N _ (nm i6)).2.1
    · exact (N _ (nm i3)).2.1
  · intro k hk
    rcases lt3 hk with rfl | rfl | rfl
    · exact pw.ne (by decide) (.inl (by decide)) i9 i10
    · exact pw.ne (by decide) (.inl (by decide)) i6 i10
    · exact pw.ne (by decide) (.inl (by decide)) i3 i10
  · intro k hk
    rcases lt3 hk with rfl | rfl | rfl
    · exact pw.ne (by decide) (.inl (by decide)) i9 i11
    · exact pw.ne (by decide) (.inl (by decide)) i6 i11
    · exact pw.ne (by decide) (.inl (by decide)) i3 i11
  · intro j k hj hk n
    rcases lt3 hj with rfl | rfl | rfl <;> rcases lt3 hk with rfl | rfl | rfl <;> first
      | exact absurd rfl n
      | exact pw.ne (by decide) (.inl (by decide)) i9 i6
      | exact pw.ne (by decide) (.inl (by decide)) i9 i3
      | exact pw.ne (by decide) (.inl (by decide)) i6 i9
      | exact pw.ne (by decide) (.inl (by decide)) i6 i3
      | exact pw.ne (by decide) (.inl (by decide)) i3 i9
      | exact pw.ne (by decide) (.inl (by decide)) i3 i6
end Mine
namespace Mine
/-- the whole state between two statements, but the names -/
structure Cr (P : Params) (g : Heap) (its : List (Addr × Obj)) (Dk : Nat → Addr) (Du To : Addr) (mv : List Addr) (stat : List (Addr × Obj)) (bufs : Nat → Str) (datD datT : List Dat) (h : Heap) : Prop where
  ent : Ent g (its.map (·.1) ++ mv) stat h
  ls : LSt P Dk Du To stat bufs datD datT h
  it : ∀ p ∈ its, h.get? p.1 = some p.2 ∧ p.1 ∉ mv
section
variable {P : Params} {g h h' : Heap} {L : Addr} {its : List (Addr × Obj)} {Dk : Nat → Addr} {Du To : Addr} {mv : List Addr} {stat nl : List (Addr × Obj)} {bufs bufs' : Nat → Str} {datD datT datD' datT' : List Dat} {m : Str → Option Value}
theorem Cr.to (x : Cr P g its Dk Du To mv stat bufs datD datT h) (M : Muts mv L Du To Dk) (F : Fr g L h' m) (kb : ∀ b o, b ∉ mv → h.get? b = some o → h'.get? b = some o) (hn : ∀ p ∈ nl, h'.get? p.1 = some p.2 ∧ h.get? p.1 = none) (ls : LSt P Dk Du To (nl ++ stat) bufs' datD' datT' h') : Cr P g its Dk Du To mv (nl ++ stat) bufs' datD' datT' h' := by
  have it : ∀ p ∈ its, h'.get? p.1 = some p.2 ∧ p.1 ∉ mv := fun p hp => ⟨kb _ _ (x.it p hp).2 (x.it p hp).1, (x.it p hp).2⟩
  refine ⟨x.ent.step (fun b o n e => kb b o (fun q => n (List.mem_append_right _ q)) e) (fun b hb => ?_) F.keep hn, ls, it⟩
  rcases List.mem_append.mp hb with hb | hb
  · obtain ⟨p, hp, rfl⟩ := List.mem_map.mp hb
    exact ⟨_, (it p hp).1⟩
  · rcases (M.all b).mp hb with rfl | rfl | rfl | ⟨k, hk, rfl⟩
    · obtain ⟨o, _, _, e, _⟩ := F.ns
      exact ⟨o, e⟩
    · obtain ⟨_, _, e, _⟩ := ls.due
      exact ⟨_, e⟩
    · obtain ⟨_, _, e, _⟩ := ls.told
      exact ⟨_, e⟩
    · obtain ⟨_, _, _, _, _, e⟩ := ls.rds k hk
      exact ⟨_, e⟩
theorem Muts.memL (M : Muts mv L Du To Dk) : L ∈ mv := (M.all L).mpr (.inl rfl)
theorem Muts.memDu (M : Muts mv L Du To Dk) : Du ∈ mv := (M.all Du).mpr (.inr (.inl rfl))
theorem Muts.memTo (M : Muts mv L Du To Dk) : To ∈ mv := (M.all To).mpr (.inr (.inr (.inl rfl)))
theorem Muts.memD (M : Muts mv L Du To Dk) {k : Nat} (hk : k < 3) : Dk k ∈ mv := (M.all _).mpr (.inr (.inr (.inr ⟨k, hk, rfl⟩)))
theorem keepBut_one {a b : Addr} {o : Obj} (kb : KeepBut [a] h h') (n : b ≠ a) (e : h.get? b = some o) : h'.get? b = some o := kb b o (fun q => n (List.mem_singleton.mp q)) e
theorem Cr.stay (x : Cr P g its Dk Du To mv stat bufs datD datT h) (M : Muts mv L Du To Dk) (F : Fr g L h' m) (kb : KeepBut [L] h h') (hn : ∀ p ∈ nl, h'.get? p.1 = some p.2 ∧ h.get? p.1 = none) : Cr P g its Dk Du To mv (nl ++ stat) bufs datD datT h' :=
  x.to M F (fun b o n e => keepBut_one kb (fun q => n (q ▸ M.memL)) e) hn
    (x.ls.keep (fun k hk o e => keepBut_one kb (M.DL k hk) e) (fun o e => keepBut_one kb (Ne.symm M.LDu) e) (fun o e => keepBut_one kb (Ne.symm M.LTo) e) fun p hp => List.mem_append_right _ hp)
theorem Cr.stay0 (x : Cr P g its Dk Du To mv stat bufs datD datT h) (M : Muts mv L Du To Dk) (F : Fr g L h' m) (kb : KeepBut [L] h h') : Cr P g its Dk Du To mv stat bufs datD datT h' :=
  x.stay (nl := []) M F kb fun p hp => absurd hp List.not_mem_nil
/-- a new thing in the list of what is due -/
theorem Cr.dueApp {us : List Value} {v : Value} {n' : Nat} {d : Dat} (x : Cr P g its Dk Du To mv stat bufs datD datT h) (M : Muts mv L Du To Dk) (F : Fr g L h' m) (kb : KeepBut [L, Du] h h') (hn : ∀ p ∈ nl, h'.get? p.1 = some p.2 ∧ h.get? p.1 = none)
    (hu : DatAll stat us datD) (hv : DatIn (nl ++ stat) v d) (e : h'.get? Du = some (W.listOf (us ++ [v]).toArray n')) : Cr P g its Dk Du To mv (nl ++ stat) bufs (datD ++ [d]) datT h' := by
  have k2 : ∀ b o, b ≠ L → b ≠ Du → h.get? b = some o → h'.get? b = some o := fun b o n1 n2 e => kb b o (fun q => by simp only [List.mem_cons, List.not_mem_nil, or_false] at q; exact q.elim n1 n2) e
  obtain ⟨ts, nt, e3, e4⟩ := x.ls.told
  refine x.to M F (fun b o n e => k2 b o (fun q => n (q ▸ M.memL)) (fun q => n (q ▸ M.memDu)) e) hn ⟨fun k hk => isRd_at (x.ls.rds k hk) fun o e => k2 _ o (M.DL k hk) (M.DDu k hk) e, ⟨us ++ [v], n', e, ?_⟩, ⟨ts, nt, k2 _ _ (Ne.symm M.LTo) (Ne.symm M.DuTo) e3, e4.mono fun p hp => List.mem_append_right _ hp⟩⟩
  exact datAll_app (hu.mono fun p hp => List.mem_append_right _ hp) (.cons hv .nil)
theorem Cr.toldApp {us : List Value} {v : Value} {n' : Nat} {d : Dat} (x : Cr P g its Dk Du To mv stat bufs datD datT h) (M : Muts mv L Du To Dk) (F : Fr g L h' m) (kb : KeepBut [L, To] h h') (hn : ∀ p ∈ nl, h'.get? p.1 = some p.2 ∧ h.get? p.1 = none)
    (hu : DatAll stat us datT) (hv : DatIn (nl ++ stat) v d) (e : h'.get? To = some (W.listOf (us ++ [v]).toArray n')) : Cr P g its Dk Du To mv (nl ++ stat) bufs datD (datT ++ [d]) h' := by
  have k2 : ∀ b o, b ≠ L → b ≠ To → h.get? b = some o → h'.get? b = some o := fun b o n1 n2 e => kb b o (fun q => by simp only [List.mem_cons, List.not_mem_nil, or_false] at q; exact q.elim n1 n2) e
  obtain ⟨ts, nt, e3, e4⟩ := x.ls.due
  refine x.to M F (fun b o n e => k2 b o (fun q => n (q ▸ M.memL)) (fun q => n (q ▸ M.memTo)) e) hn ⟨fun k hk => isRd_at (x.ls.rds k hk) fun o e => k2 _ o (M.DL k hk) (M.DTo k hk) e, ⟨ts, nt, k2 _ _ (Ne.symm M.LDu) M.DuTo e3, e4.mono fun p hp => List.mem_append_right _ hp⟩, ⟨us ++ [v], n', e, ?_⟩⟩
  exact datAll_app (hu.mono fun p hp => List.mem_append_right _ hp) (.cons hv .nil)
end
end Mine
namespace Mine
def AnyP (P : Shared → Prop) {α : Type} (_ : α) (s' : Shared) : Prop := P s'
theorem cutA {α : Type} {M : Model} {A : Around} {t : Sem α} {s : Shared} {Q : α → Shared → Prop} {E : Value → Shared → Prop} (P : Shared → Prop) (h1 : wpAny M A t (AnyP P) E s) (h2 : ∀ a s', P s' → Q a s') : wpAny M A t Q E s :=
  wpAny_mono h1 (fun a s' h => h2 a s' h) fun _ _ e => e
end Mine
namespace Mine
theorem new_none1 {base h : Heap} {L l : Addr} {r : List (Addr × Obj)} (hr : restOf base h [L] = r) (n1 : l ≠ L) (n2 : base.get? l = none) (n4 : ∀ p ∈ r, @LT.lt Nat _ p.1 l) : h.get? l = none := by
  cases q : h.get? l with
  | none => rfl
  | some o => exact absurd (n4 (l, o) (hr ▸ mem_rest.mpr ⟨by simp [n1], n2, q⟩)) (Nat.lt_irrefl _)
end Mine
namespace Mine
theorem turn_next {M : Model} {A : Around} {t : Sem Flow} {s : Shared} {P : Shared → Prop} {Q : Flow → Shared → Prop} {E : Value → Shared → Prop} (h : wpAny M A t (Nxt P) (fun _ _ => False) s) : wpAny M A t (TurnF P Q) E s :=
  wpAny_mono h (fun f s' ⟨e, p⟩ => by subst e; exact TurnF.next p) fun _ _ x => x.elim
end Mine
namespace Mine
theorem join_len_le (ns : List Int) (h : ns.length ≤ 7) : (Str.join nlS (ns.map txN ++ [Str.empty])).length ≤ 900 := by
  have h1 := StrLaws.join_length_le nlS (ns.map txN ++ [Str.empty])
  have h2 := sum_le (fun x : Int => (txN x).length) 120 txN_len ns
  rw [List.map_append, List.sum_append, List.map_map, List.length_append, List.length_map] at h1
  have e1 : nlS.length = 1 := by decide
  have e2 : ([Str.empty].map fun x : Str => x.length).sum = 0 := by decide
  rw [e1, e2] at h1
  have e3 : (ns.map ((fun x : Str => x.length) ∘ txN)).sum ≤ ns.length * 120 := h2
  simp only [List.length_cons, List.length_nil] at h1
  omega
theorem plain_step {ns : List Int} {pcs : List (Str × Bool)} {i : Nat} {pl : Int} {buf piece : Str} {lean : Bool} (hF : ∀ n, Free (txN n)) (hl : ns.length ≤ 7) (h : Plain ns pcs i pl buf) (hp : pcs[i]? = some (piece, lean)) :
    ∃ (pn k : Nat) (bf : Str), pl = (pn : Int) ∧ pn + k ≤ ns.length ∧ Txt.count piece nlS = (k : Int) ∧ Txt.split (buf ++ piece) nlS = ((ns.drop pn).take k).map txN ++ [bf] ∧ Plain ns pcs (i + 1) (pl + (k : Int)) bf ∧ buf.length ≤ 900 ∧ piece.length ≤ 900 := by
  obtain ⟨hf, pn, rfl, hpn, hc⟩ := h
  have hi : i < pcs.length := (List.getElem?_eq_some_iff.mp hp).1
  have hd : pcs.drop i = (piece, lean) :: pcs.drop (i + 1) := by
    rw [List.drop_eq_getElem_cons hi, (List.getElem?_eq_some_iff.mp hp).2]
  rw [hd] at hc
  replace hc : buf ++ (piece ++ catS ((pcs.drop (i + 1)).map (·.1))) = Str.join nlS ((ns.drop pn).map txN ++ [Str.empty]) := hc
  have hc2 : (buf ++ piece) ++ catS ((pcs.drop (i + 1)).map (·.1)) = Str.join nlS ((ns.drop pn).map txN ++ [Str.empty]) := by
    rw [← hc]; exact str_cps (by simp only [app_cps, List.append_assoc])
  have hlen := join_len_le (ns.drop pn) (by rw [List.length_drop]; omega)
  obtain ⟨k, bf, hk, hs, hfb, hr, hcnt⟩ := split_step (M := (ns.drop pn).map txN ++ [Str.empty]) (fun p hp => by
    rcases List.mem_append.mp hp with hp | hp
    · obtain ⟨n, _, rfl⟩ := List.mem_map.mp hp
      exact hF n
    · rw [List.mem_singleton.mp hp]
      show 10 ∉ Str.empty.cps.toList
      decide) (by simp) hc2
  have hk' : k ≤ (ns.drop pn).length := by simp only [List.length_append, List.length_map, List.length_singleton] at hk; omega
  rw [List.length_drop] at hk'
  rw [← hc] at hlen
  rw [Str.length_append, Str.length_append] at hlen
  refine ⟨pn, k, bf, rfl, by omega, ?_, ?_, ⟨hfb, pn + k, by push_cast; rfl, by omega, ?_⟩, by omega, by omega⟩
  · rw [app_cps, cnt_append, cnt_none _ _ hf, Int.zero_add] at hcnt
    rw [nlS_eq, count_is]
    exact hcnt
  · rw [hs, List.take_append_of_le_length (by rw [List.length_map, List.length_drop]; omega), List.map_take]
  · rw [hr, List.drop_append_of_le_length (by rw [List.length_map, List.length_drop]; omega), ← List.map_drop, List.drop_drop]
theorem plain_start {ns : List Int} {pcs : List (Str × Bool)} {text0 : Str} (hne : ns ≠ []) (ht : Txt.join nlS (ns.map txN) = text0) (hc : catS (pcs.map (·.1)) = text0 ++ nlS) : Plain ns pcs 0 0 Str.empty := by
  refine ⟨by show 10 ∉ Str.empty.cps.toList; decide, 0, rfl, Nat.zero_le _, ?_⟩
  rw [List.drop_zero, List.drop_zero, hc, ← ht]
  rw [show Txt.join nlS (ns.map txN) = Str.join nlS (ns.map txN) from StrLaws.glued_eq_join _ _, ← join_end _ (by simpa using hne)]
  exact Str.empty_append _
theorem numsL_ne (ks : List Int) : numsL ks ≠ [] := by
  unfold numsL
  split
  · simp
  · rename_i h
    unfold eachL cnt2
    intro q
    have := congrArg List.length q
    rw [List.length_map, List.length_range, List.length_nil] at this
    have : 0 < ks.length := List.length_pos_iff.mpr h
    split at * <;> split at * <;> omega
end Mine
namespace Mine
theorem datAll_drop {nl : List (Addr × Obj)} : ∀ {n : Nat} {vs : List Value} {ds : List Dat}, DatAll nl vs ds → DatAll nl (vs.drop n) (ds.drop n)
  | 0, _, _, h => h
  | _ + 1, _, _, .nil => .nil
  | n + 1, _, _, .cons _ r => datAll_drop (n := n) r
theorem datAll_take {nl : List (Addr × Obj)} : ∀ {n : Nat} {vs : List Value} {ds : List Dat}, DatAll nl vs ds → DatAll nl (vs.take n) (ds.take n)
  | 0, _, _, _ => .nil
  | _ + 1, _, _, .nil => .nil
  | n + 1, _, _, .cons h r => .cons h (datAll_take (n := n) r)
theorem take_snoc {α : Type} {l : List α} {j : Nat} {x : α} (h : l[j]? = some x) : l.take (j + 1) = l.take j ++ [x] := by
  obtain ⟨hj, e⟩ := List.getElem?_eq_some_iff.mp h
  rw [List.take_add_one, h]; rfl
end Mine
namespace Mine
def ValP (P : Value → Shared → Prop) (v : Value) (s' : Shared) : Prop := P v s'
theorem cutV {M : Model} {A : Around} {t : Sem Value} {s : Shared} {Q : Value → Shared → Prop} {E : Value → Shared → Prop} (P : Value → Shared → Prop) (h1 : wpAny M A t (ValP P) E s) (h2 : ∀ a s', P a s' → Q a s') : wpAny M A t Q E s :=
  wpAny_mono h1 (fun a s' h => h2 a s' h) fun _ _ e => e
end Mine
namespace Mine
section
variable {P : Params} {g h h' : Heap} {J : Addr} {oJ oJ' : Obj} {its : List (Addr × Obj)} {Dk : Nat → Addr} {Du To : Addr} {mv : List Addr} {stat : List (Addr × Obj)} {bufs bufs' : Nat → Str} {datD datT : List Dat}
theorem Cr.more (x : Cr P g its Dk Du To mv stat bufs datD datT h) (hJ : h'.get? J = some oJ) (nJ : h.get? J = none) (k : h.StaysIn h') : Cr P g ((J, oJ) :: its) Dk Du To mv stat bufs datD datT h' := by
  have gJ : g.get? J = none := none_of_stays x.ent.st nJ
  have e := x.ent.step (nl := []) (fun b o _ e => k b o e) (fun b hb => (x.ent.alive b hb).1.imp fun o e => k b o e) (fun b o e => k b o (x.ent.st b o e)) (fun p hp => absurd hp List.not_mem_nil)
  refine ⟨e.more hJ gJ (fun p hp q => ?_), x.ls.keep (fun _ _ o e => k _ o e) (fun o e => k _ o e) (fun o e => k _ o e) (fun _ hp => hp), fun p hp => ?_⟩
  · have := x.ent.on p hp
    rw [show p.1 = J from q, nJ] at this; cases this
  · rcases List.mem_cons.mp hp with rfl | hp
    · refine ⟨hJ, fun q => ?_⟩
      obtain ⟨o, e⟩ := (x.ent.alive _ (List.mem_append_right _ q)).1
      rw [show h.get? J = none from nJ] at e; cases e
    · exact ⟨k _ _ (x.it p hp).1, (x.it p hp).2⟩
theorem Cr.less (x : Cr P g ((J, oJ) :: its) Dk Du To mv stat bufs datD datT h) : Cr P g its Dk Du To mv stat bufs datD datT h :=
  ⟨(Ent.less (I := J) x.ent).1, x.ls, fun p hp => x.it p (.tail _ hp)⟩
theorem Cr.iter (x : Cr P g ((J, oJ) :: its) Dk Du To mv stat bufs datD datT h) (M : ∀ k, k < 3 → Dk k ∈ mv) (MD : Du ∈ mv) (MT : To ∈ mv) (hn : ∀ p ∈ its, p.1 ≠ J) (hx : Heap.ExtBut J h h') (hJ' : h'.get? J = some oJ') : Cr P g ((J, oJ') :: its) Dk Du To mv stat bufs datD datT h' := by
  have gJ := (x.ent.alive J (.head _)).2
  have nJ := (x.it _ (.head _)).2
  have nm : ∀ b ∈ mv, b ≠ J := fun b hb q => nJ (q ▸ hb)
  have e := x.ent.step (h' := h') (nl := []) (fun b o n e => hx b o (fun q => n (q ▸ .head _)) e) (fun b hb => by
      by_cases q : b = J
      · exact ⟨_, q ▸ hJ'⟩
      · exact (x.ent.alive b hb).1.imp fun o e => hx b o q e) (fun b o e => hx b o (fun q => by rw [q, gJ] at e; cases e) (x.ent.st b o e)) (fun p hp => absurd hp List.not_mem_nil)
  refine ⟨e, x.ls.keep (fun k hk o e => hx _ o (nm _ (M k hk)) e) (fun o e => hx _ o (nm _ MD) e) (fun o e => hx _ o (nm _ MT) e) (fun _ hp => hp), fun p hp => ?_⟩
  rcases List.mem_cons.mp hp with rfl | hp
  · exact ⟨hJ', nJ⟩
  · exact ⟨hx _ _ (hn p hp) (x.it p (.tail _ hp)).1, (x.it p (.tail _ hp)).2⟩
theorem LSt.rebuf (x : LSt P Dk Du To stat bufs datD datT h) (e : ∀ k, k < 3 → bufs k = bufs' k) : LSt P Dk Du To stat bufs' datD datT h := ⟨fun k hk => e k hk ▸ x.rds k hk, x.due, x.told⟩
theorem Cr.rebuf (x : Cr P g its Dk Du To mv stat bufs datD datT h) (e : ∀ k, k < 3 → bufs k = bufs' k) : Cr P g its Dk Du To mv stat bufs' datD datT h := ⟨x.ent, x.ls.rebuf e, x.it⟩
end
theorem three_at {α : Type} {x : α} {f : Nat → α} {j : Nat} (h : (#[f 0, f 1, f 2] : Array α)[j]? = some x) : j < 3 ∧ x = f j := by
  match j, h with
  | 0, h => cases h; exact ⟨by decide, rfl⟩
  | 1, h => cases h; exact ⟨by decide, rfl⟩
  | 2, h => cases h; exact ⟨by decide, rfl⟩
  | n + 3, h => simp at h
end Mine
namespace Mine
theorem none_back {h h' : Heap} {sk : List Addr} {a : Addr} (kb : KeepBut sk h h') (al : ∀ b ∈ sk, ∃ o, h'.get? b = some o) (n : h'.get? a = none) : h.get? a = none := by
  cases q : h.get? a with
  | none => rfl
  | some o =>
    by_cases m : a ∈ sk
    · obtain ⟨o', e⟩ := al a m
      rw [n] at e; cases e
    · rw [kb a o m q] at n; cases n
theorem Cr.inRest {P : Params} {g h : Heap} {its : List (Addr × Obj)} {Dk : Nat → Addr} {Du To : Addr} {mv sk : List Addr} {stat : List (Addr × Obj)} {bufs : Nat → Str} {datD datT : List Dat} (x : Cr P g its Dk Du To mv stat bufs datD datT h) (hs : ∀ b ∈ sk, b ∈ mv) : ∀ p ∈ stat, p ∈ restOf g h sk := fun p hp =>
  mem_rest.mpr ⟨fun q => x.ent.off p hp (List.mem_append_right _ (hs _ q)), x.ent.new p hp, x.ent.on p hp⟩
end Mine
namespace Mine
def hid3 (L R D : Addr) (b : Nat) : Bool := b == L || b == R || b == D
theorem hid3_t {L R D b : Addr} (h : hid3 L R D b = true) : b = L ∨ b = R ∨ b = D := by
  unfold hid3 at h
  simp only [Bool.or_eq_true, beq_iff_eq] at h
  rcases h with (h | h) | h
  · exact .inl h
  · exact .inr (.inl h)
  · exact .inr (.inr h)
theorem hid3_f {L R D b : Addr} (h1 : b ≠ L) (h2 : b ≠ R) (h3 : b ≠ D) : hid3 L R D b = false := by
  cases q : hid3 L R D b with
  | false => rfl
  | true => rcases hid3_t q with q | q | q <;> contradiction
theorem hid3_L {L R D : Addr} : hid3 L R D L = true := by unfold hid3; simp
theorem hid3_R {L R D : Addr} : hid3 L R D R = true := by unfold hid3; simp
theorem hid3_D {L R D : Addr} : hid3 L R D D = true := by unfold hid3; simp
end Mine
namespace Mine
theorem Cr.after {P : Params} {g h h' : Heap} {J : Addr} {oJ : Obj} {its : List (Addr × Obj)} {Dk : Nat → Addr} {Du To : Addr} {mv : List Addr} {stat : List (Addr × Obj)} {bufs : Nat → Str} {datD datT : List Dat} (x : Cr P g ((J, oJ) :: its) Dk Du To mv stat bufs datD datT h) (M : ∀ k, k < 3 → Dk k ∈ mv) (MD : Du ∈ mv) (MT : To ∈ mv) (hn : ∀ p ∈ its, p.1 ≠ J) (hx : Heap.ExtBut J h h') : Cr P g its Dk Du To mv stat bufs datD datT h' := by
  have gJ := (x.ent.alive J (.head _)).2
  have nJ := (x.it _ (.head _)).2
  have nm : ∀ b ∈ mv, b ≠ J := fun b hb q => nJ (q ▸ hb)
  have nb : ∀ b ∈ its.map (·.1) ++ mv, b ≠ J := fun b hb => by
    rcases List.mem_append.mp hb with hb | hb
    · obtain ⟨p, hp, rfl⟩ := List.mem_map.mp hb
      exact hn p hp
    · exact nm b hb
  have ns : ∀ p ∈ stat, p.1 ≠ J := fun p hp q => x.ent.off p hp (q ▸ .head _)
  refine ⟨⟨fun b o e => hx b o (fun q => by rw [q, gJ] at e; cases e) (x.ent.st b o e), fun p hp => hx _ _ (ns p hp) (x.ent.on p hp), x.ent.new, fun p hp q => x.ent.off p hp (.tail _ q), fun b hb => ⟨(x.ent.alive b (.tail _ hb)).1.imp fun o e => hx b o (nb b hb) e, (x.ent.alive b (.tail _ hb)).2⟩⟩,
    x.ls.keep (fun k hk o e => hx _ o (nm _ (M k hk)) e) (fun o e => hx _ o (nm _ MD) e) (fun o e => hx _ o (nm _ MT) e) (fun _ hp => hp), fun p hp => ⟨hx _ _ (hn p hp) (x.it p (.tail _ hp)).1, (x.it p (.tail _ hp)).2⟩⟩
end Mine
namespace Mine
theorem join_len0 (ns : List Int) (h : ns.length ≤ 7) : (Txt.join (Str.ofString "\n") (ns.map txN)).length ≤ 1000 := by
  rw [show Txt.join (Str.ofString "\n") (ns.map txN) = Str.join nlS (ns.map txN) from StrLaws.glued_eq_join _ _]
  have h1 := StrLaws.join_length_le nlS (ns.map txN)
  have h2 := sum_le (fun x : Int => (txN x).length) 120 txN_len ns
  rw [List.map_map, List.length_map] at h1
  have e1 : nlS.length = 1 := by decide
  rw [e1] at h1
  have e3 : (ns.map ((fun x : Str => x.length) ∘ txN)).sum ≤ ns.length * 120 := h2
  omega
theorem eachL_len (ks : List Int) : (eachL ks 1 24).length ≤ 24 := by
  unfold eachL cnt2
  rw [List.length_map, List.length_range]
  split <;> split <;> omega
end Mine
end
-- Pk
section
local macro_rules | `(tactic| walk_at "mine no such step") => `(tactic| skip)
local macro_rules | `(tactic| walk_at "mine no such step") => `(tactic| skip)
local macro_rules | `(tactic| walk_at "mine no such step") => `(tactic| skip)
local macro_rules | `(tactic| walk_at "mine no such step") => `(tactic| skip)
local macro_rules | `(tactic| walk_at "mine no such step") => `(tactic| skip)
local macro_rules | `(tactic| walk_at "mine no such step") => `(tactic| skip)
local macro_rules | `(tactic| walk_at "mine no such step") => `(tactic| skip)
local macro_rules | `(tactic| walk_at "mine no such step") => `(tactic| skip)
local macro_rules | `(tactic| walk_at "mine no such step") => `(tactic| skip)
local macro_rules | `(tactic| walk_at "mine no such step") => `(tactic| skip)
local macro_rules | `(tactic| walk_at "mine no such step") => `(tactic| skip)
local macro_rules | `(tactic| walk_at "mine no such step") => `(tactic| skip)
local macro_rules | `(tactic| walk_at "mine no such step") => `(tactic| skip)
local macro_rules | `(tactic| walk_at "mine no such step") => `(tactic| skip)
local macro_rules | `(tactic| walk_at "mine no such step") => `(tactic| skip)
local macro_rules | `(tactic| walk_at "mine no such step") => `(tactic| skip)
local macro_rules | `(tactic| walk_at "mine no such step") => `(tactic| skip)
local macro_rules | `(tactic| walk_at "mine no such step") => `(tactic| skip)
local macro_rules | `(tactic| walk_at "mine no such step") => `(tactic| skip)
local macro_rules | `(tactic| walk_at "mine no such step") => `(tactic| skip)
local macro_rules | `(tactic| walk_at "mine no such step") => `(tactic| skip)
local macro_rules | `(tactic| walk_at "mine no such step") => `(tactic| skip)
local macro_rules | `(tactic| walk_at "mine no such step") => `(tactic| skip)
local macro_rules | `(tactic| walk_at "mine no such step") => `(tactic| skip)
local macro_rules | `(tactic| walk_at "mine no such step") => `(tactic| skip)
local macro_rules | `(tactic| walk_at "mine no such step") => `(tactic| skip)
local macro_rules | `(tactic| walk_at "mine no such step") => `(tactic| skip)
local macro_rules | `(tactic| walk_at "mine no such step") => `(tactic| skip)
local macro_rules | `(tactic| walk_at "mine no such step") => `(tactic| skip)
local macro_rules | `(tactic| walk_at "mine no such step") => `(tactic| skip)
local macro_rules | `(tactic| walk_at "mine no such step") => `(tactic| skip)
local macro_rules | `(tactic| walk_at "mine no such step") => `(tactic| skip)
local macro_rules | `(tactic| walk_at "mine no such step") => `(tactic| skip)
local macro_rules | `(tactic| walk_at "mine no such step") => `(tactic| skip)
local macro_rules | `(tactic| walk_at "mine no such step") => `(tactic| skip)
local macro_rules | `(tactic| walk_at "mine no such step") => `(tactic| skip)
local macro_rules | `(tactic| walk_at "mine no such step") => `(tactic| skip)
local macro_rules | `(tactic| walk_at "mine no such step") => `(tactic| skip)
local macro_rules | `(tactic| walk_at "mine no such step") => `(tactic| skip)
local macro_rules | `(tactic| walk_at "mine no such step") => `(tactic| skip)
open PySem PySem.W PyProof.Rows PySem.Builtin PySem.Builtin.Str
set_option maxRecDepth 100000
set_option linter.all false
namespace Mine
theorem lstrip_id {x : Str} {c : Nat} {r : List Nat} (h : x.cps.toList = c :: r) (hc : Unicode.isSpace c = false) : Txt.lstrip x = x := by
  unfold Txt.lstrip
  rw [PyProof.Rows.stripBy_eq]
  have e : stripLo Unicode.isSpace true x = 0 := by
    unfold stripLo
    rw [if_pos rfl, h, List.takeWhile_cons, hc]
    rfl
  rw [e]
  unfold stripHi
  rw [if_neg (by decide)]
  exact strSub_whole x
theorem partition_no {x : Str} (h : FreeC 42 x) : Txt.partition x ⟨#[42]⟩ = (x, Str.empty, Str.empty) := by
  unfold Txt.partition
  rcases StrLaws.occ_head x ⟨#[42]⟩ 1 (Nat.le_refl 1) with ⟨h0, hn⟩ | ⟨i, r, h0, hi, hn⟩
  · rw [h0]
  · exact absurd (List.mem_of_getElem? ((StrLaws.subAt_one x 42 i).mp hi)) h
theorem partition_at {a t : Str} (h : FreeC 42 a) : Txt.partition (a ++ ⟨#[42]⟩ ++ t) ⟨#[42]⟩ = (a, ⟨#[42]⟩, t) := by
  have el : (a ++ ⟨#[42]⟩ ++ t).cps.toList = a.cps.toList ++ 42 :: t.cps.toList := by rw [app_cps, app_cps, List.append_assoc]; rfl
  have al : a.cps.toList.length = a.length := by simp [Str.length]
  have hat : (a ++ ⟨#[42]⟩ ++ t).cps.toList[a.length]? = some 42 := by rw [el, ← al]; simp
  have xl : (a ++ ⟨#[42]⟩ ++ t).length = a.length + 1 + t.length := by rw [Str.length_append, Str.length_append]; rfl
  unfold Txt.partition
  rcases StrLaws.occ_head (a ++ ⟨#[42]⟩ ++ t) ⟨#[42]⟩ 1 (Nat.le_refl 1) with ⟨h0, hn⟩ | ⟨i, r, h0, hi, hn⟩
  · exact absurd ((StrLaws.subAt_one _ 42 _).mpr hat) (hn _)
  · rw [h0]
    have hi' := (StrLaws.subAt_one _ 42 i).mp hi
    have hle : ¬ a.length < i := fun q => hn _ q ((StrLaws.subAt_one _ 42 _).mpr hat)
    have hge : ¬ i < a.length := fun q => by
      rw [el, List.getElem?_append_left (by omega)] at hi'
      exact h (List.mem_of_getElem? hi')
    have e : i = a.length := by omega
    subst e
    have e1 : strSub (a ++ ⟨#[42]⟩ ++ t) 0 a.length = a := str_cps (by rw [StrLaws.strSub_toList, el, List.drop_zero, Nat.sub_zero, ← al, List.take_left])
    have e2 : strSub (a ++ ⟨#[42]⟩ ++ t) (a.length + (⟨#[42]⟩ : Str).length) (a ++ ⟨#[42]⟩ ++ t).length = t := str_cps (by
      rw [StrLaws.strSub_toList, el, xl]
      show ((a.cps.toList ++ 42 :: t.cps.toList).drop (a.length + 1)).take (a.length + 1 + t.length - (a.length + 1)) = _
      have tl : t.cps.toList.length = t.length := by simp [Str.length]
      rw [← al, List.drop_length_add_append]
      show t.cps.toList.take _ = _
      exact List.take_of_length_le (by omega))
    dsimp only
    rw [e1, e2]
def digS : Str := Str.ofString "0123456789ABCDEF"
/-- the two signs of a sum -/
def hh (v : Int) : Str := Txt.item digS ((v.fmod 256).fdiv 16) ++ Txt.item digS ((v.fmod 256).fmod 16)
theorem hexT_hh (v : Int) : hexT v = ⟨#[42]⟩ ++ hh v := by
  unfold hexT hh
  rw [show Str.ofString "*" = (⟨#[42]⟩ : Str) by decide +kernel]
  exact str_cps (by simp only [app_cps, List.append_assoc, digS])
theorem hh_mod (v : Int) : hh v = hh (v.fmod 256) := by
  have h0 := fmod_lo v (by decide : (0 : Int) < 256)
  have h1 := fmod_hi v (by decide : (0 : Int) < 256)
  have : (v.fmod 256).fmod 256 = v.fmod 256 := by
    rw [Int.fmod_eq_emod_of_nonneg _ (by decide : (0 : Int) ≤ 256), Int.emod_eq_of_lt h0 h1]
  unfold hh; rw [this]
noncomputable def numV (r : int_private% "Numeral") : Option Int := (int_private% "Numeral.rec") (motive := fun _ => Option Int) none (fun _ => none) none (fun i => some i) r
theorem numV_eq {r : int_private% "Numeral"} {i : Int} (h : numV r = some i) : r = (int_private% "Numeral.value") i := by
  cases r <;> first | (cases h; rfl) | cases h
noncomputable def rd16 (x : Str) (n : Int) : Bool :=
  x.cps.all (· < 128) && decide ((x.cps.toList.takeWhile (· != 0)).length ≤ 640) && (numV ((int_private% "readNumeral") 0 16 (x.cps.toList.takeWhile (· != 0))) == some n) && ((x.cps.toList.takeWhile (· != 0)).length == x.cps.toList.length)
theorem rd16_reads {x : Str} {n : Int} (h : rd16 x n = true) : reads16 x n := by
  unfold rd16 at h
  simp only [Bool.and_eq_true] at h
  obtain ⟨⟨⟨a, b⟩, c⟩, d⟩ := h
  exact ⟨a, of_decide_eq_true b, numV_eq (by simpa using c), d⟩
noncomputable def chkH (h : Str) (v : Int) : Bool := decide (h.length = 2) && decide ((Txt.stripChars h hexS).length = 0) && rd16 h v
noncomputable def chkHs (v : Int) : Bool := chkH (hh v) v && chkH (Txt.lower (hh v)) v && (Txt.lower (⟨#[42]⟩ ++ hh v) == ⟨#[42]⟩ ++ Txt.lower (hh v)) && !((hh v).cps.toList.contains 10) && !((Txt.lower (hh v)).cps.toList.contains 10)
theorem chkHs_1 : (List.range 64).all (fun r => chkHs (r : Int)) = true := by decide +kernel
theorem chkHs_2 : (List.range 64).all (fun r => chkHs (64 + r : Int)) = true := by decide +kernel
theorem chkHs_3 : (List.range 64).all (fun r => chkHs (128 + r : Int)) = true := by decide +kernel
theorem chkHs_4 : (List.range 64).all (fun r => chkHs (192 + r : Int)) = true := by decide +kernel
theorem chkHs_at (v : Int) (h0 : 0 ≤ v) (h1 : v < 256) : chkHs v = true := by
  obtain ⟨n, rfl⟩ := Int.eq_ofNat_of_zero_le h0
  by_cases q1 : n < 64
  · exact List.all_eq_true.mp chkHs_1 n (List.mem_range.mpr q1)
  by_cases q2 : n < 128
  · have := List.all_eq_true.mp chkHs_2 (n - 64) (List.mem_range.mpr (by omega))
    rwa [show (64 + ((n - 64 : Nat) : Int)) = (n : Int) by omega] at this
  by_cases q3 : n < 192
  · have := List.all_eq_true.mp chkHs_3 (n - 128) (List.mem_range.mpr (by omega))
    rwa [show (128 + ((n - 128 : Nat) : Int)) = (n : Int) by omega] at this
  · have := List.all_eq_true.mp chkHs_4 (n - 192) (List.mem_range.mpr (by omega))
    rwa [show (192 + ((n - 192 : Nat) : Int)) = (n : Int) by omega] at this
structure ChkH (h : Str) (v : Int) : Prop where
  len : h.length = 2
  hex : (Txt.stripChars h hexS).length = 0
  rd : reads16 h v
  nl : 10 ∉ h.cps.toList
theorem chkH_at (v : Int) (h0 : 0 ≤ v) (h1 : v < 256) : ChkH (hh v) v ∧ ChkH (Txt.lower (hh v)) v ∧ Txt.lower (⟨#[42]⟩ ++ hh v) = ⟨#[42]⟩ ++ Txt.lower (hh v) := by
  have h := chkHs_at v h0 h1
  unfold chkHs chkH at h
  simp only [Bool.and_eq_true, Bool.not_eq_true', decide_eq_true_eq, beq_iff_eq] at h
  obtain ⟨⟨⟨⟨⟨⟨a1, a2⟩, a3⟩, ⟨⟨b1, b2⟩, b3⟩⟩, c⟩, d⟩, e⟩ := h
  exact ⟨⟨a1, a2, rd16_reads a3, fun q => by rw [List.contains_iff_mem.mpr q] at d; cases d⟩, ⟨b1, b2, rd16_reads b3, fun q => by rw [List.contains_iff_mem.mpr q] at e; cases e⟩, c⟩
theorem sl_to {a D : Str} {k : Int} (h0 : 0 ≤ k) (hk : k.toNat ≤ a.cps.toList.length) : Txt.slice (a ++ D) none (some k) = Txt.slice a none (some k) :=
  str_cps (by rw [slice_cps_to h0, slice_cps_to h0, app_cps, List.take_append_of_le_length hk])
theorem sl_all {a : Str} {k : Int} (h0 : 0 ≤ k) (hk : a.cps.toList.length ≤ k.toNat) : Txt.slice a none (some k) = a :=
  str_cps (by rw [slice_cps_to h0, List.take_of_length_le hk])
theorem sl_from {a D : Str} {k : Int} (h0 : 0 ≤ k) (hk : k.toNat = a.cps.toList.length) : Txt.slice (a ++ D) (some k) none = D :=
  str_cps (by rw [slice_cps_from h0, app_cps, hk, List.drop_left])
theorem sl_mid {a D : Str} {i j : Int} (h0 : 0 ≤ i) (hij : i ≤ j) (hj : j.toNat ≤ a.cps.toList.length) : Txt.slice (a ++ D) (some i) (some j) = Txt.slice a (some i) (some j) := by
  rw [beq_iff_eq.mp (slice_closes (x := a ++ D) (i := i) (j := j) ⟨h0, hij, by rw [app_cps, List.length_append]; omega⟩), beq_iff_eq.mp (slice_closes (x := a) (i := i) (j := j) ⟨h0, hij, by omega⟩)]
  rw [app_cps, List.drop_append_of_le_length (by omega), List.take_append_of_le_length (by rw [List.length_drop]; omega)]
theorem len_cps (x : Str) : x.cps.toList.length = x.length := by simp [Str.length]
theorem dollar_cut (b : Str) : dollarS (Str.ofString "$" ++ b) = b := by
  unfold dollarS
  rw [sl_to (by decide) (by decide), if_pos (by decide +kernel), sl_from (by decide) (by decide)]
theorem size6 {a D : Str} (hl : a.cps.toList.length = 6) (h1 : isP a = false) (h2 : isQ a = false) (h3 : (wordlikeS (Txt.slice a none (some 5)) 5 && Txt.slice a (some 5) (some 6) == Str.ofString ",") = true) : sizeS (a ++ D) = 6 := by
  have e1 : isP (a ++ D) = false := by unfold isP at h1 ⊢; rw [sl_to (by decide) (by rw [hl]; decide)]; exact h1
  have e2 : isQ (a ++ D) = false := by unfold isQ at h2 ⊢; rw [sl_mid (by decide) (by decide) (by rw [hl]; decide)]; exact h2
  unfold sizeS
  rw [e1, e2, sl_to (k := 5) (by decide) (by rw [hl]; decide), sl_mid (i := 5) (j := 6) (by decide) (by decide) (by rw [hl]; decide)]
  simp only [Bool.false_and, Bool.and_false, Bool.false_eq_true, if_false]
  exact if_pos h3
theorem size4 {a D : Str} (hl : a.cps.toList.length = 4) (h1 : (isP a && wordlikeS (Txt.slice a (some 1) (some 4)) 3) = true) : sizeS (a ++ D) = 4 := by
  have e1 : isP (a ++ D) = isP a := by unfold isP; rw [sl_to (by decide) (by rw [hl]; decide)]
  unfold sizeS
  rw [e1, sl_mid (i := 1) (j := 4) (by decide) (by decide) (by rw [hl]; decide)]
  exact if_pos h1
/-- a text whose signs are all figures -/
def Figs (x : Str) : Prop := ∀ c ∈ x.cps.toList, 48 ≤ c ∧ c ≤ 57
theorem figs_all : (List.range 100).all (fun r => (Str.ofString (toString ((r : Nat) : Int))).cps.toList.all fun c => decide (48 ≤ c) && decide (c ≤ 57)) = true := by decide +kernel
theorem wordN_figs (n : Int) : Figs (wordN n) := by
  have h0 := fmod_lo (n.fdiv 8) (by decide : (0 : Int) < 100)
  have h1 := fmod_hi (n.fdiv 8) (by decide : (0 : Int) < 100)
  obtain ⟨k, hk⟩ := Int.eq_ofNat_of_zero_le h0
  have := List.all_eq_true.mp figs_all k (List.mem_range.mpr (by omega))
  intro c hc
  unfold wordN at hc
  rw [hk] at hc
  have h := List.all_eq_true.mp this c hc
  simpa using h
theorem cr_mem {r : Int} {c : Nat} (h : c ∈ (cr r).cps.toList) : c = 13 := by
  unfold cr at h
  split at h
  · have e : (Str.ofString "\r").cps.toList = [13] := by decide
    rw [e] at h
    exact List.mem_singleton.mp h
  · have e : (Str.ofString "").cps.toList = [] := by decide
    rw [e] at h
    exact absurd h List.not_mem_nil
theorem glued_mem {c : Nat} : ∀ {l : List Str}, c ∈ (Str.join (Str.ofString "") l).cps.toList → ∃ x ∈ l, c ∈ x.cps.toList
  | [], h => by
    have e : (Str.join (Str.ofString "") []).cps.toList = [] := by decide
    rw [e] at h
    exact absurd h List.not_mem_nil
  | [x], h => ⟨x, .head _, h⟩
  | x :: y :: r, h => by
    rw [join_two, app_cps, app_cps] at h
    have e : (Str.ofString "").cps.toList = [] := by decide
    rw [e, List.append_nil] at h
    rcases List.mem_append.mp h with h | h
    · exact ⟨x, .head _, h⟩
    · obtain ⟨z, hz, hc⟩ := glued_mem h
      exact ⟨z, .tail _ hz, hc⟩
theorem many_figs {W : Str} {r : Int} (h : Figs W) : Figs (manyS W r) := fun c hc => by
  unfold manyS at hc
  rw [show Txt.join (Str.ofString "") (List.map (fun _ => W) (rangeKs 0 (1 + r.fmod 45 - 0).toNat)) = Str.join (Str.ofString "") _ from StrLaws.glued_eq_join _ _] at hc
  obtain ⟨x, hx, hcx⟩ := glued_mem hc
  obtain ⟨_, _, rfl⟩ := List.mem_map.mp hx
  exact h c hcx
end Mine
end
-- Pl
section
open PySem PySem.W PyProof.Rows PySem.Builtin PySem.Builtin.Str
set_option maxRecDepth 100000
set_option linter.all false
namespace Mine
theorem starS_eq : Str.ofString "*" = (⟨#[42]⟩ : Str) := by decide +kernel
theorem nWT : Str.ofString "WPL" ≠ Str.ofString "TXT" := by decide
theorem nQT : Str.ofString "question" ≠ Str.ofString "TXT" := by decide
theorem nMT : Str.ofString "maker" ≠ Str.ofString "TXT" := by decide
theorem nRT : Str.ofString "refused" ≠ Str.ofString "TXT" := by decide
theorem nWR : Str.ofString "WPL" ≠ Str.ofString "refused" := by decide
theorem nTR : Str.ofString "TXT" ≠ Str.ofString "refused" := by decide
theorem nQR : Str.ofString "question" ≠ Str.ofString "refused" := by decide
theorem nMR : Str.ofString "maker" ≠ Str.ofString "refused" := by decide
theorem lineOk_mk {x : Str} {c : Int} {lean : Bool} {p : Str × Str × Str} {n : Str} (ep : Txt.partition (Txt.lstrip x) (Str.ofString "*") = p) (hd : dollarS p.1 = n) (hx : x.length ≤ 4096) (hl : (Txt.lstrip x).length ≤ 4096) (hn : n.length ≤ 4096) (hA : n.cps.all (· < 128) = true)
    (hck : ((Txt.slice p.2.2 none (some 2)).length : Int) ≠ 0 → reads16 (Txt.slice p.2.2 none (some 2)) c) (c0 : 0 ≤ c) (c1 : c < 256) (hend : parseT n p.2.1 p.2.2 lean c = .err 64 → badS (sizeS n) p.2.1 p.2.2) : LineOk lean (x, c) := by
  subst ep hd
  exact ⟨hx, hl, hn, hA, hck, c0, c1, hend⟩
theorem resL_mk {x : Str} {c : Int} {lean : Bool} {p : Str × Str × Str} {n : Str} (ep : Txt.partition (Txt.lstrip x) (Str.ofString "*") = p) (hd : dollarS p.1 = n) : resL lean (x, c) = parseT n p.2.1 p.2.2 lean c := by
  subst ep hd
  exact (resL_eq lean (x, c)).symm
theorem tail_ok {h tl : Str} {v : Int} (H : ChkH h v) (htl : (Txt.strip tl).length = 0) : okTail (h ++ tl) ∧ Txt.slice (h ++ tl) none (some 2) = h := by
  have hl : h.cps.toList.length = 2 := by rw [len_cps, H.len]
  have e1 : Txt.slice (h ++ tl) none (some 2) = h := by rw [sl_to (by decide) (by rw [hl]; decide), sl_all (by decide) (by rw [hl]; decide)]
  have e2 : Txt.slice (h ++ tl) (some 2) none = tl := sl_from (by decide) (by rw [hl]; decide)
  refine ⟨⟨?_, ?_, ?_⟩, e1⟩
  · rw [Str.length_append, H.len]; omega
  · rw [e1, H.hex]; rfl
  · rw [e2, htl]; rfl
theorem starOk {a b h tl : Str} {v : Int} {lean : Bool} {e : PRes} (hc : ∃ c r, a.cps.toList = c :: r ∧ Unicode.isSpace c = false) (hf : FreeC 42 a) (hd : dollarS a = b) (H : ChkH h v) (v0 : 0 ≤ v) (v1 : v < 256) (htl : (Txt.strip tl).length = 0) (tll : tl.length ≤ 1)
    (al : a.length ≤ 200) (bl : b.length ≤ 200) (as : b.cps.all (· < 128) = true) (sz : sizeS b ≠ 0)
    (he : (if v ≠ xorFrom 0 b.cps.toList then PRes.err 89 else parseV (Txt.upper (Txt.slice b none (some (sizeS b)))) (Txt.slice b (some (sizeS b)) none) lean) = e) (hne : e ≠ .err 64) :
    LineOk lean (a ++ ⟨#[42]⟩ ++ (h ++ tl), v) ∧ resL lean (a ++ ⟨#[42]⟩ ++ (h ++ tl), v) = e := by
  obtain ⟨c, r, ea, hs⟩ := hc
  have el : Txt.lstrip (a ++ ⟨#[42]⟩ ++ (h ++ tl)) = a ++ ⟨#[42]⟩ ++ (h ++ tl) := lstrip_id (c := c) (r := r ++ (42 :: (h ++ tl).cps.toList)) (by rw [app_cps, app_cps, ea, List.append_assoc]; rfl) hs
  obtain ⟨ok, e2⟩ := tail_ok H htl
  have ep : Txt.partition (Txt.lstrip (a ++ ⟨#[42]⟩ ++ (h ++ tl))) (Str.ofString "*") = (a, ⟨#[42]⟩, h ++ tl) := by rw [el, starS_eq, partition_at hf]
  have nb : ¬ badS (sizeS b) ⟨#[42]⟩ (h ++ tl) := by
    unfold badS
    rintro (q | q)
    · exact sz q
    · exact q.2 ok
  have ex : parseT b ⟨#[42]⟩ (h ++ tl) lean v = e := by
    rw [parseT_ok nb]
    unfold parseU
    rw [e2, H.len, ← he]
    by_cases q : v = xorFrom 0 b.cps.toList
    · rw [if_neg (fun z => z.2 q), if_neg (fun z => z q)]
    · rw [if_pos ⟨by decide, q⟩, if_pos q]
  have xl : (a ++ ⟨#[42]⟩ ++ (h ++ tl)).length ≤ 4096 := by
    rw [Str.length_append, Str.length_append, Str.length_append, H.len]
    have : (⟨#[42]⟩ : Str).length = 1 := rfl
    omega
  refine ⟨lineOk_mk ep hd xl (by rw [el]; exact xl) (by omega) as (fun _ => ?_) v0 v1 (fun q => absurd (ex.symm.trans q) hne), (resL_mk ep hd).trans ex⟩
  rw [show (a, (⟨#[42]⟩ : Str), h ++ tl).2.2 = h ++ tl from rfl, e2]
  exact H.rd
theorem plainOk {x n : Str} {lean : Bool} {e : PRes} (hl : Txt.lstrip x = x) (hf : FreeC 42 x) (hd : dollarS x = n) (xl : x.length ≤ 200) (bl : n.length ≤ 200) (as : n.cps.all (· < 128) = true)
    (he : (if sizeS n = 0 then PRes.err 64 else parseV (Txt.upper (Txt.slice n none (some (sizeS n)))) (Txt.slice n (some (sizeS n)) none) lean) = e) (hne : sizeS n ≠ 0 → e ≠ .err 64) :
    LineOk lean (x, 0) ∧ resL lean (x, 0) = e := by
  have ep : Txt.partition (Txt.lstrip x) (Str.ofString "*") = (x, Str.empty, Str.empty) := by rw [hl, starS_eq, partition_no hf]
  have e0 : (Str.empty.length : Int) = 0 := by decide
  have e2 : ((Txt.slice Str.empty none (some 2)).length : Int) = 0 := by decide +kernel
  have bz : badS (sizeS n) Str.empty Str.empty ↔ sizeS n = 0 := by
    unfold badS
    constructor
    · rintro (q | q)
      · exact q
      · exact absurd e0 q.1
    · exact .inl
  have ex : parseT n Str.empty Str.empty lean 0 = e := by
    rw [← he]
    unfold parseT
    by_cases q : sizeS n = 0
    · rw [if_pos (bz.mpr q), if_pos q]
    · rw [if_neg (fun z => q (bz.mp z)), if_neg q]
      unfold parseU
      rw [if_neg (fun z => z.1 e2)]
  refine ⟨lineOk_mk ep hd (Nat.le_trans xl (by decide)) (by rw [hl]; exact Nat.le_trans xl (by decide)) (by omega) as (fun q => absurd e2 q) (by decide) (by decide) (fun q => bz.mpr ?_), (resL_mk ep hd).trans ex⟩
  by_cases z : sizeS n = 0
  · exact z
  · exact absurd (ex.symm.trans q) (hne z)
/-- what parse makes of a line -/
def resN (lean : Bool) (n : Int) : PRes :=
  if n.fmod 8 = 0 then .talker 310 (Str.ofString "GP") (Str.ofString "WPL") [wordN n, Str.ofString "N"]
  else if n.fmod 8 = 1 then (if lean = true then .err 77 else .talker 292 (Str.ofString "II") (Str.ofString "TXT") [Str.ofString "a", manyS (wordN n) (n.fdiv 8) ++ cr (n.fdiv 8)])
  else if n.fmod 8 = 2 then .query (Str.ofString "CC") (Str.ofString "GP") (Str.ofString "WPL")
  else if n.fmod 8 = 3 then .maker (Str.ofString "XYZ") [wordN n, Str.ofString ""]
  else if n.fmod 8 = 4 then .err 89
  else if n.fmod 8 = 5 then .err 77
  else .err 64
theorem res_law (lean : Bool) (n : Int) : showD (resN lean n) = oneD (leanO lean (oN n)) ∧ (((leanO lean (oN n)).1 = Str.ofString "refused" ∧ ∃ C, resN lean n = .err C ∧ kindD C = .list (dsS "raised" :: .str (leanO lean (oN n)).1 :: (leanO lean (oN n)).2)) ∨ ((leanO lean (oN n)).1 ≠ Str.ofString "refused" ∧ ∀ C, resN lean n ≠ .err C)) := by
  unfold resN oN
  by_cases q0 : n.fmod 8 = 0
  · rw [if_pos q0, if_pos q0]
    have e : leanO lean (Str.ofString "WPL", [dsS "GP", dsS "WPL", .list [.str (wordN n), dsS "N"]]) = (Str.ofString "WPL", [dsS "GP", dsS "WPL", .list [.str (wordN n), dsS "N"]]) := if_neg (fun z => nWT z.2)
    rw [e]
    exact ⟨rfl, .inr ⟨nWR, fun C => nofun⟩⟩
  rw [if_neg q0, if_neg q0]
  by_cases q1 : n.fmod 8 = 1
  · rw [if_pos q1, if_pos q1]
    cases lean with
    | true =>
      rw [if_pos rfl]
      have e : leanO true (Str.ofString "TXT", [dsS "II", dsS "TXT", .list [dsS "a", .str (manyS (wordN n) (n.fdiv 8) ++ cr (n.fdiv 8))]]) = (Str.ofString "refused", [dsS "kind"]) := if_pos ⟨rfl, rfl⟩
      rw [e]
      exact ⟨rfl, .inl ⟨rfl, 77, rfl, rfl⟩⟩
    | false =>
      rw [if_neg (by decide)]
      have e : leanO false (Str.ofString "TXT", [dsS "II", dsS "TXT", .list [dsS "a", .str (manyS (wordN n) (n.fdiv 8) ++ cr (n.fdiv 8))]]) = (Str.ofString "TXT", [dsS "II", dsS "TXT", .list [dsS "a", .str (manyS (wordN n) (n.fdiv 8) ++ cr (n.fdiv 8))]]) := if_neg (fun z => absurd z.1 (by decide))
      rw [e]
      exact ⟨rfl, .inr ⟨nTR, fun C => nofun⟩⟩
  rw [if_neg q1, if_neg q1]
  by_cases q2 : n.fmod 8 = 2
  · rw [if_pos q2, if_pos q2]
    have e : leanO lean (Str.ofString "question", [dsS "CC", dsS "GP", dsS "WPL", .list []]) = (Str.ofString "question", [dsS "CC", dsS "GP", dsS "WPL", .list []]) := if_neg (fun z => nQT z.2)
    rw [e]
    exact ⟨rfl, .inr ⟨nQR, fun C => nofun⟩⟩
  rw [if_neg q2, if_neg q2]
  by_cases q3 : n.fmod 8 = 3
  · rw [if_pos q3, if_pos q3]
    have e : leanO lean (Str.ofString "maker", [dsS "XYZ", .list [.str (wordN n), dsS ""]]) = (Str.ofString "maker", [dsS "XYZ", .list [.str (wordN n), dsS ""]]) := if_neg (fun z => nMT z.2)
    rw [e]
    exact ⟨rfl, .inr ⟨nMR, fun C => nofun⟩⟩
  rw [if_neg q3, if_neg q3]
  have e : ∀ x : String, leanO lean (Str.ofString "refused", [dsS x]) = (Str.ofString "refused", [dsS x]) := fun x => if_neg (fun z => nRT z.2)
  by_cases q4 : n.fmod 8 = 4
  · rw [if_pos q4, if_pos q4, e]
    exact ⟨rfl, .inl ⟨rfl, 89, rfl, rfl⟩⟩
  rw [if_neg q4, if_neg q4]
  by_cases q5 : n.fmod 8 = 5
  · rw [if_pos q5, if_pos q5, e]
    exact ⟨rfl, .inl ⟨rfl, 77, rfl, rfl⟩⟩
  rw [if_neg q5, if_neg q5, e]
  exact ⟨rfl, .inl ⟨rfl, 64, rfl, rfl⟩⟩
theorem told_due (lean : Bool) (way : Str) (hw : way = Str.ofString "raise" ∨ way = Str.ofString "yield" ∨ way = Str.ofString "ignore") (f : Int → Ln) (hf : ∀ n, resL lean (f n) = resN lean n) : ∀ ms : List Int, toldL (evsL way lean (ms.map f)) = dueL way (ms.map fun n => leanO lean (oN n))
  | [] => rfl
  | n :: r => by
    have ih := told_due lean way hw f hf r
    obtain ⟨h1, h2⟩ := res_law lean n
    rw [List.map_cons, List.map_cons, dueL_cons, evsL_cons, hf]
    rcases h2 with ⟨h2, C, h3, h4⟩ | ⟨h2, h3⟩
    · rw [h3] at h1 ⊢
      dsimp only
      rcases hw with rfl | rfl | rfl
      · rw [if_pos rfl, if_neg (by rintro (z | z); exact z h2; revert z; decide), if_pos rfl]
        unfold toldL
        rw [← h4]; rfl
      · rw [if_neg (by decide), if_pos rfl, if_pos (.inr rfl), ← ih, ← h1]
        rfl
      · rw [if_neg (by decide), if_neg (by decide), if_neg (by rintro (z | z); exact z h2; revert z; decide), if_neg (by decide), ← ih]
    · rw [if_pos (.inl h2), ← ih, ← h1]
      cases q : resN lean n with
      | err C => exact absurd q (h3 C)
      | talker a b c d => rfl
      | query a b c => rfl
      | maker a b => rfl
end Mine
end
-- Pm
section
local macro_rules | `(tactic| walk_at "mine no such step") => `(tactic| skip)
local macro_rules | `(tactic| walk_at "mine no such step") => `(tactic| skip)
local macro_rules | `(tactic| walk_at "mine no such step") => `(tactic| skip)
local macro_rules | `(tactic| walk_at "mine no such step") => `(tactic| skip)
local macro_rules | `(tactic| walk_at "mine no such step") => `(tactic| skip)
local macro_rules | `(tactic| walk_at "mine no such step") => `(tactic| skip)
local macro_rules | `(tactic| walk_at "mine no such step") => `(tactic| skip)
local macro_rules | `(tactic| walk_at "mine no such step") => `(tactic| skip)
local macro_rules | `(tactic| walk_at "mine no such step") => `(tactic| skip)
local macro_rules | `(tactic| walk_at "mine no such step") => `(tactic| skip)
local macro_rules | `(tactic| walk_at "mine no such step") => `(tactic| skip)
local macro_rules | `(tactic| walk_at "mine no such step") => `(tactic| skip)
local macro_rules | `(tactic| walk_at "mine no such step") => `(tactic| skip)
local macro_rules | `(tactic| walk_at "mine no such step") => `(tactic| skip)
local macro_rules | `(tactic| walk_at "mine no such step") => `(tactic| skip)
local macro_rules | `(tactic| walk_at "mine no such step") => `(tactic| skip)
local macro_rules | `(tactic| walk_at "mine no such step") => `(tactic| skip)
local macro_rules | `(tactic| walk_at "mine no such step") => `(tactic| skip)
local macro_rules | `(tactic| walk_at "mine no such step") => `(tactic| skip)
local macro_rules | `(tactic| walk_at "mine no such step") => `(tactic| skip)
local macro_rules | `(tactic| walk_at "mine no such step") => `(tactic| skip)
local macro_rules | `(tactic| walk_at "mine no such step") => `(tactic| skip)
local macro_rules | `(tactic| walk_at "mine no such step") => `(tactic| skip)
local macro_rules | `(tactic| walk_at "mine no such step") => `(tactic| skip)
local macro_rules | `(tactic| walk_at "mine no such step") => `(tactic| skip)
local macro_rules | `(tactic| walk_at "mine no such step") => `(tactic| skip)
local macro_rules | `(tactic| walk_at "mine no such step") => `(tactic| skip)
local macro_rules | `(tactic| walk_at "mine no such step") => `(tactic| skip)
local macro_rules | `(tactic| walk_at "mine no such step") => `(tactic| skip)
local macro_rules | `(tactic| walk_at "mine no such step") => `(tactic| skip)
local macro_rules | `(tactic| walk_at "mine no such step") => `(tactic| skip)
local macro_rules | `(tactic| walk_at "mine no such step") => `(tactic| skip)
local macro_rules | `(tactic| walk_at "mine no such step") => `(tactic| skip)
local macro_rules | `(tactic| walk_at "mine no such step") => `(tactic| skip)
local macro_rules | `(tactic| walk_at "mine no such step") => `(tactic| skip)
local macro_rules | `(tactic| walk_at "mine no such step") => `(tactic| skip)
local macro_rules | `(tactic| walk_at "mine no such step") => `(tactic| skip)
local macro_rules | `(tactic| walk_at "mine no such step") => `(tactic| skip)
local macro_rules | `(tactic| walk_at "mine no such step") => `(tactic| skip)
local macro_rules | `(tactic| walk_at "mine no such step") => `(tactic| skip)
open PySem PySem.W PyProof.Rows PySem.Builtin PySem.Builtin.Str
set_option maxRecDepth 100000
set_option linter.all false
namespace Mine
theorem commaS_eq : Str.ofString "," = (⟨#[44]⟩ : Str) := by decide +kernel
theorem asc_all {x : Str} (h : Asc x) : x.cps.all (· < 128) = true := by
  rw [← Array.all_toList]
  exact List.all_eq_true.mpr fun c hc => by simpa using h c hc
theorem figs_asc {x : Str} (h : Figs x) : Asc x := fun c hc => by have := h c hc; omega
theorem freeC_app {c : Nat} {x y : Str} (h : FreeC c x) (k : FreeC c y) : FreeC c (x ++ y) := fun q => by
  rw [app_cps] at q
  rcases List.mem_append.mp q with q | q
  · exact h q
  · exact k q
theorem freeC_lit {c : Nat} {x : Str} (h : x.cps.toList.contains c = false) : FreeC c x := fun q => by
  rw [List.contains_iff_mem.mpr q] at h; cases h
theorem figs_free {c : Nat} {x : Str} (h : Figs x) (hc : c < 48 ∨ 57 < c) : FreeC c x := fun q => by have := h c q; omega
theorem cr_free {c : Nat} {r : Int} (hc : c ≠ 13) : FreeC c (cr r) := fun q => hc (cr_mem q)
theorem cr_asc (r : Int) : Asc (cr r) := fun c hc => by rw [cr_mem hc]; decide
theorem cr_strip (r : Int) : (Txt.strip (cr r)).length = 0 := by
  unfold cr; split <;> decide +kernel
theorem pvW (ds : Str) (lean : Bool) : parseV (Txt.upper (Str.ofString "GPWPL,")) ds lean = .talker 310 (Str.ofString "GP") (Str.ofString "WPL") (Txt.split ds (Str.ofString ",")) := by
  have e1 : Txt.upper (Str.ofString "GPWPL,") = Str.ofString "GPWPL," := by decide +kernel
  have e2 : Txt.slice (Str.ofString "GPWPL,") (some 2) (some 5) = Str.ofString "WPL" := by decide +kernel
  have e3 : Txt.slice (Str.ofString "GPWPL,") none (some 2) = Str.ofString "GP" := by decide +kernel
  rw [e1]
  unfold parseV
  rw [if_pos (by decide +kernel), e2, e3, show kindsF lean (Str.ofString "WPL") = some (.ref 310) from if_pos rfl]
theorem pvZ (ds : Str) (lean : Bool) : parseV (Txt.upper (Str.ofString "GPZZZ,")) ds lean = .err 77 := by
  have e1 : Txt.upper (Str.ofString "GPZZZ,") = Str.ofString "GPZZZ," := by decide +kernel
  have e2 : Txt.slice (Str.ofString "GPZZZ,") (some 2) (some 5) = Str.ofString "ZZZ" := by decide +kernel
  rw [e1]
  unfold parseV
  rw [if_pos (by decide +kernel), e2, show kindsF lean (Str.ofString "ZZZ") = none by unfold kindsF; rw [if_neg (by decide), if_neg (fun z => absurd z.2 (by decide))]]
theorem pvT (ds : Str) (lean : Bool) : parseV (Txt.upper (Str.ofString "IITXT,")) ds lean = if lean = true then .err 77 else .talker 292 (Str.ofString "II") (Str.ofString "TXT") (Txt.split ds (Str.ofString ",")) := by
  have e1 : Txt.upper (Str.ofString "IITXT,") = Str.ofString "IITXT," := by decide +kernel
  have e2 : Txt.slice (Str.ofString "IITXT,") (some 2) (some 5) = Str.ofString "TXT" := by decide +kernel
  have e3 : Txt.slice (Str.ofString "IITXT,") none (some 2) = Str.ofString "II" := by decide +kernel
  rw [e1]
  unfold parseV
  rw [if_pos (by decide +kernel), e2, e3]
  cases lean with
  | true => rw [show kindsF true (Str.ofString "TXT") = none by unfold kindsF; rw [if_neg (by decide), if_neg (fun z => absurd z.1 (by decide))], if_pos rfl]
  | false => rw [show kindsF false (Str.ofString "TXT") = some (.ref 292) by unfold kindsF; rw [if_neg (by decide), if_pos ⟨rfl, rfl⟩], if_neg (by decide)]
theorem pvM (ds : Str) (lean : Bool) : parseV (Txt.upper (Str.ofString "PXYZ")) ds lean = .maker (Str.ofString "XYZ") (Txt.split ds (Str.ofString ",")) := by
  have e1 : Txt.upper (Str.ofString "PXYZ") = Str.ofString "PXYZ" := by decide +kernel
  have e2 : Txt.slice (Str.ofString "PXYZ") (some 1) none = Str.ofString "XYZ" := by decide +kernel
  rw [e1]
  unfold parseV
  rw [if_neg (by decide +kernel), if_neg (fun z => absurd z.1 (by decide +kernel)), if_pos (by decide), e2]
theorem pvQ (lean : Bool) : parseV (Txt.upper (Txt.slice (Str.ofString "CCGPQ,WPL") none (some (sizeS (Str.ofString "CCGPQ,WPL"))))) (Txt.slice (Str.ofString "CCGPQ,WPL") (some (sizeS (Str.ofString "CCGPQ,WPL"))) none) lean = .query (Str.ofString "CC") (Str.ofString "GP") (Str.ofString "WPL") := by
  have e0 : sizeS (Str.ofString "CCGPQ,WPL") = 9 := by decide +kernel
  have e1 : Txt.upper (Txt.slice (Str.ofString "CCGPQ,WPL") none (some 9)) = Str.ofString "CCGPQ,WPL" := by decide +kernel
  have e2 : Txt.slice (Str.ofString "CCGPQ,WPL") (some 9) none = Str.empty := by decide +kernel
  rw [e0, e1, e2]
  unfold parseV
  rw [if_neg (by decide +kernel), if_pos (by decide +kernel), show Txt.slice (Str.ofString "CCGPQ,WPL") none (some 2) = Str.ofString "CC" by decide +kernel, show Txt.slice (Str.ofString "CCGPQ,WPL") (some 2) (some 4) = Str.ofString "GP" by decide +kernel, show Txt.slice (Str.ofString "CCGPQ,WPL") (some 6) none = Str.ofString "WPL" by decide +kernel]
theorem c36 : ∀ b : Str, ∃ c r, (Str.ofString "$" ++ b).cps.toList = c :: r ∧ Unicode.isSpace c = false := fun b => ⟨36, b.cps.toList, by rw [app_cps]; rfl, by decide +kernel⟩
theorem hex_cut (b : Str) (k : Int) : sumS b k = ⟨#[42]⟩ ++ hh (xorFrom 0 b.cps.toList + k) := hexT_hh _
theorem all7 : (List.range 100).all (fun r => decide (sizeS (Str.ofString "-" ++ Str.ofString (toString ((r : Nat) : Int)) ++ cr ((r : Nat) : Int)) = 0)) = true := by decide +kernel
theorem size7 (n : Int) : sizeS (Str.ofString "-" ++ wordN n ++ cr (n.fdiv 8)) = 0 := by
  have h0 := fmod_lo (n.fdiv 8) (by decide : (0 : Int) < 100)
  have h1 := fmod_hi (n.fdiv 8) (by decide : (0 : Int) < 100)
  obtain ⟨k, hk⟩ := Int.eq_ofNat_of_zero_le h0
  have := List.all_eq_true.mp all7 k (List.mem_range.mpr (by omega))
  have e : cr (n.fdiv 8) = cr (k : Int) := by
    unfold cr
    rw [show (n.fdiv 8).fmod 2 = (k : Int).fmod 2 by
      rw [← hk, Int.fmod_eq_emod_of_nonneg _ (by decide), Int.fmod_eq_emod_of_nonneg _ (by decide), Int.fmod_eq_emod_of_nonneg _ (by decide)]
      omega]
  unfold wordN
  rw [hk, e]
  simpa using this
theorem bad6 : badS (sizeS Str.empty) Str.empty Str.empty := .inl (by decide +kernel)
theorem line6 (r : Int) (lean : Bool) : LineOk lean (cr r, 0) ∧ resL lean (cr r, 0) = .err 64 := by
  have ep : Txt.partition (Txt.lstrip (cr r)) (Str.ofString "*") = (Str.empty, Str.empty, Str.empty) := by
    unfold cr; split <;> decide +kernel
  have hd : dollarS (Str.empty, Str.empty, Str.empty).1 = Str.empty := by decide +kernel
  refine ⟨lineOk_mk ep hd (Nat.le_trans (cr_len r) (by decide)) ?_ (by decide) (by decide +kernel) (fun q => absurd (by decide +kernel) q) (by decide) (by decide) (fun _ => bad6), (resL_mk ep hd).trans (parseT_bad bad6)⟩
  unfold cr; split <;> decide +kernel
set_option maxHeartbeats 1000000 in
theorem line_ok (n : Int) (lean : Bool) : ∃ c, LineOk lean (txN n, c) ∧ resL lean (txN n, c) = resN lean n := by
  have hW := wordN_figs n
  have hWl := word_len n
  have hWa := figs_asc hW
  have hq0 := fmod_lo (n.fdiv 8) (by decide : (0 : Int) < 255)
  have hq1 := fmod_hi (n.fdiv 8) (by decide : (0 : Int) < 255)
  have htl := cr_strip (n.fdiv 8)
  have htll := cr_len (n.fdiv 8)
  have hml := manyS_len (r := n.fdiv 8) hWl
  have hmf := many_figs (r := n.fdiv 8) hW
  have e7 := size7 n
  unfold txN lineTx resN
  by_cases q0 : n.fmod 8 = 0
  · rw [if_pos q0, if_pos q0]
    generalize wordN n = W at *
    generalize cr (n.fdiv 8) = tl at *
    have hb : Asc (Str.ofString "GPWPL," ++ W ++ Str.ofString ",N") := Asc.append (Asc.append (asc_lit (by decide)) hWa) (asc_lit (by decide))
    obtain ⟨x0, x1⟩ := xorFrom_lt (asc_all hb)
    have hs : Str.ofString "GPWPL," ++ W ++ Str.ofString ",N" = Str.ofString "GPWPL," ++ (W ++ Str.ofString ",N") := str_cps (by simp only [app_cps, List.append_assoc])
    have h6 : sizeS (Str.ofString "GPWPL," ++ W ++ Str.ofString ",N") = 6 := by rw [hs]; exact size6 (by decide) (by decide +kernel) (by decide +kernel) (by decide +kernel)
    rw [hex_cut, show Str.ofString "$" ++ (Str.ofString "GPWPL," ++ W ++ Str.ofString ",N") ++ (⟨#[42]⟩ ++ hh (xorFrom 0 (Str.ofString "GPWPL," ++ W ++ Str.ofString ",N").cps.toList + 0)) ++ tl = Str.ofString "$" ++ (Str.ofString "GPWPL," ++ W ++ Str.ofString ",N") ++ ⟨#[42]⟩ ++ (hh (xorFrom 0 (Str.ofString "GPWPL," ++ W ++ Str.ofString ",N").cps.toList + 0) ++ tl) from str_cps (by simp only [app_cps, List.append_assoc]), Int.add_zero]
    refine ⟨_, starOk (c36 _) (freeC_app (freeC_lit (by decide)) (freeC_app (freeC_app (freeC_lit (by decide)) (figs_free hW (by omega))) (freeC_lit (by decide)))) (dollar_cut _) (chkH_at _ x0 (by omega)).1 x0 (by omega) htl htll ?_ ?_ (asc_all hb) (by rw [h6]; decide) ?_ nofun⟩
    · simp only [Str.length_append]; have : (Str.ofString "$").length = 1 := by decide
      have : (Str.ofString "GPWPL,").length = 6 := by decide
      have : (Str.ofString ",N").length = 2 := by decide
      omega
    · simp only [Str.length_append]
      have : (Str.ofString "GPWPL,").length = 6 := by decide
      have : (Str.ofString ",N").length = 2 := by decide
      omega
    · rw [if_neg (fun z => z rfl), h6, hs, sl_to (by decide) (by decide), sl_all (by decide) (by decide), sl_from (by decide) (by decide), pvW, show W ++ Str.ofString ",N" = W ++ ⟨#[44]⟩ ++ Str.ofString "N" from str_cps (by simp only [app_cps, List.append_assoc]; rfl), commaS_eq, split_two (figs_free hW (by omega)) (freeC_lit (by decide))]
  rw [if_neg q0, if_neg q0]
  by_cases q1 : n.fmod 8 = 1
  · rw [if_pos q1, if_pos q1]
    have hD : Figs (manyS (wordN n) (n.fdiv 8)) := hmf
    have hca := cr_asc (n.fdiv 8)
    have hc42 := cr_free (c := 42) (r := n.fdiv 8) (by decide)
    have hc44 := cr_free (c := 44) (r := n.fdiv 8) (by decide)
    generalize manyS (wordN n) (n.fdiv 8) = D at *
    generalize cr (n.fdiv 8) = tl at *
    have hs : Str.ofString "$IITXT,a," ++ D ++ tl = Str.ofString "$" ++ (Str.ofString "IITXT," ++ (Str.ofString "a," ++ (D ++ tl))) := str_cps (by simp only [app_cps, ← List.append_assoc]; rfl)
    have h6 : sizeS (Str.ofString "IITXT," ++ (Str.ofString "a," ++ (D ++ tl))) = 6 := size6 (by decide) (by decide +kernel) (by decide +kernel) (by decide +kernel)
    have l1 : (Str.ofString "$").length = 1 := by decide
    have l2 : (Str.ofString "IITXT,").length = 6 := by decide
    have l3 : (Str.ofString "a,").length = 2 := by decide
    rw [hs]
    obtain ⟨c, r, ec, hc⟩ := c36 (Str.ofString "IITXT," ++ (Str.ofString "a," ++ (D ++ tl)))
    refine ⟨0, plainOk (lstrip_id ec hc) (freeC_app (freeC_lit (by decide)) (freeC_app (freeC_lit (by decide)) (freeC_app (freeC_lit (by decide)) (freeC_app (figs_free hD (by omega)) hc42)))) (dollar_cut _) ?_ ?_ (asc_all (Asc.append (asc_lit (by decide)) (Asc.append (asc_lit (by decide)) (Asc.append (figs_asc hD) hca)))) ?_ ?_⟩
    · simp only [Str.length_append]; omega
    · simp only [Str.length_append]; omega
    · rw [h6, if_neg (by decide), sl_to (by decide) (by decide), sl_all (by decide) (by decide), sl_from (by decide) (by decide), pvT, show Str.ofString "a," ++ (D ++ tl) = Str.ofString "a" ++ ⟨#[44]⟩ ++ (D ++ tl) from str_cps (by simp only [app_cps, List.append_assoc]; rfl), commaS_eq, split_two (freeC_lit (by decide)) (freeC_app (figs_free hD (by omega)) hc44)]
    · intro _
      cases lean with
      | true => rw [if_pos rfl]; exact fun z => absurd (PRes.err.inj z) (by decide)
      | false => rw [if_neg (by decide)]; exact nofun
  rw [if_neg q1, if_neg q1]
  by_cases q2 : n.fmod 8 = 2
  · rw [if_pos q2, if_pos q2]
    generalize cr (n.fdiv 8) = tl at *
    have hb : Asc (Str.ofString "CCGPQ,WPL") := asc_lit (by decide)
    obtain ⟨x0, x1⟩ := xorFrom_lt (asc_all hb)
    rw [hex_cut, show Str.ofString "$CCGPQ,WPL" ++ (⟨#[42]⟩ ++ hh (xorFrom 0 (Str.ofString "CCGPQ,WPL").cps.toList + 0)) ++ tl = Str.ofString "$CCGPQ,WPL" ++ ⟨#[42]⟩ ++ (hh (xorFrom 0 (Str.ofString "CCGPQ,WPL").cps.toList + 0) ++ tl) from str_cps (by simp only [app_cps, List.append_assoc]), Int.add_zero]
    refine ⟨_, starOk ⟨36, _, rfl, by decide +kernel⟩ (freeC_lit (by decide)) (b := Str.ofString "CCGPQ,WPL") (by decide +kernel) (chkH_at _ x0 (by omega)).1 x0 (by omega) htl htll (by decide) (by decide) (asc_all hb) (by decide +kernel) ?_ nofun⟩
    rw [if_neg (fun z => z rfl)]
    exact pvQ lean
  rw [if_neg q2, if_neg q2]
  by_cases q3 : n.fmod 8 = 3
  · rw [if_pos q3, if_pos q3]
    generalize wordN n = W at *
    generalize cr (n.fdiv 8) = tl at *
    have hb : Asc (Str.ofString "PXYZ" ++ W ++ Str.ofString ",") := Asc.append (Asc.append (asc_lit (by decide)) hWa) (asc_lit (by decide))
    obtain ⟨x0, x1⟩ := xorFrom_lt (asc_all hb)
    have hs : Str.ofString "PXYZ" ++ W ++ Str.ofString "," = Str.ofString "PXYZ" ++ (W ++ Str.ofString ",") := str_cps (by simp only [app_cps, List.append_assoc])
    have h4 : sizeS (Str.ofString "PXYZ" ++ W ++ Str.ofString ",") = 4 := by rw [hs]; exact size4 (by decide) (by decide +kernel)
    have l1 : (Str.ofString "PXYZ").length = 4 := by decide
    have l2 : (Str.ofString ",").length = 1 := by decide
    have hf : FreeC 42 (Str.ofString "PXYZ" ++ W ++ Str.ofString ",") := freeC_app (freeC_app (freeC_lit (by decide)) (figs_free hW (by omega))) (freeC_lit (by decide))
    have hdl : dollarS (Str.ofString "PXYZ" ++ W ++ Str.ofString ",") = Str.ofString "PXYZ" ++ W ++ Str.ofString "," := by
      rw [hs]
      unfold dollarS
      rw [sl_to (by decide) (by decide), if_neg (by decide +kernel)]
    obtain ⟨k1, k2, k3⟩ := chkH_at (xorFrom 0 (Str.ofString "PXYZ" ++ W ++ Str.ofString ",").cps.toList) x0 (by omega)
    rw [hex_cut, Int.add_zero, k3]
    generalize Txt.lower (hh (xorFrom 0 (Str.ofString "PXYZ" ++ W ++ Str.ofString ",").cps.toList)) = h at *
    rw [show Str.ofString "PXYZ" ++ W ++ Str.ofString "," ++ (⟨#[42]⟩ ++ h) ++ tl = Str.ofString "PXYZ" ++ W ++ Str.ofString "," ++ ⟨#[42]⟩ ++ (h ++ tl) from str_cps (by simp only [app_cps, List.append_assoc])]
    refine ⟨_, starOk ⟨80, _, by rw [hs, app_cps]; rfl, by decide +kernel⟩ hf hdl k2 x0 (by omega) htl htll ?_ ?_ (asc_all hb) (by rw [h4]; decide) ?_ nofun⟩
    · simp only [Str.length_append]; omega
    · simp only [Str.length_append]; omega
    · rw [if_neg (fun z => z rfl), h4, hs, sl_to (by decide) (by decide), sl_all (by decide) (by decide), sl_from (by decide) (by decide), pvM, show W ++ Str.ofString "," = W ++ ⟨#[44]⟩ ++ Str.ofString "" from str_cps (by simp only [app_cps, List.append_assoc]; rfl), commaS_eq, split_two (figs_free hW (by omega)) (freeC_lit (by decide))]
  rw [if_neg q3, if_neg q3]
  by_cases q4 : n.fmod 8 = 4
  · rw [if_pos q4, if_pos q4]
    generalize wordN n = W at *
    generalize cr (n.fdiv 8) = tl at *
    have hb : Asc (Str.ofString "GPWPL," ++ W) := Asc.append (asc_lit (by decide)) hWa
    obtain ⟨x0, x1⟩ := xorFrom_lt (asc_all hb)
    have h6 : sizeS (Str.ofString "GPWPL," ++ W) = 6 := size6 (by decide) (by decide +kernel) (by decide +kernel) (by decide +kernel)
    have l1 : (Str.ofString "$").length = 1 := by decide
    have l2 : (Str.ofString "GPWPL,").length = 6 := by decide
    generalize (n.fdiv 8).fmod 255 = k at *
    have v0 := fmod_lo (xorFrom 0 (Str.ofString "GPWPL," ++ W).cps.toList + (1 + k)) (by decide : (0 : Int) < 256)
    have v1 := fmod_hi (xorFrom 0 (Str.ofString "GPWPL," ++ W).cps.toList + (1 + k)) (by decide : (0 : Int) < 256)
    have vn : (xorFrom 0 (Str.ofString "GPWPL," ++ W).cps.toList + (1 + k)).fmod 256 ≠ xorFrom 0 (Str.ofString "GPWPL," ++ W).cps.toList := by
      rw [Int.fmod_eq_emod_of_nonneg _ (by decide)]
      omega
    rw [hex_cut, hh_mod]
    generalize (xorFrom 0 (Str.ofString "GPWPL," ++ W).cps.toList + (1 + k)).fmod 256 = v at *
    rw [show Str.ofString "$" ++ (Str.ofString "GPWPL," ++ W) ++ (⟨#[42]⟩ ++ hh v) ++ tl = Str.ofString "$" ++ (Str.ofString "GPWPL," ++ W) ++ ⟨#[42]⟩ ++ (hh v ++ tl) from str_cps (by simp only [app_cps, List.append_assoc])]
    refine ⟨v, starOk (c36 _) (freeC_app (freeC_lit (by decide)) (freeC_app (freeC_lit (by decide)) (figs_free hW (by omega)))) (dollar_cut _) (chkH_at _ v0 v1).1 v0 v1 htl htll ?_ ?_ (asc_all hb) (by rw [h6]; decide) (if_pos vn) (fun z => absurd (PRes.err.inj z) (by decide))⟩
    · simp only [Str.length_append]; omega
    · simp only [Str.length_append]; omega
  rw [if_neg q4, if_neg q4]
  by_cases q5 : n.fmod 8 = 5
  · rw [if_pos q5, if_pos q5]
    generalize wordN n = W at *
    generalize cr (n.fdiv 8) = tl at *
    have hb : Asc (Str.ofString "GPZZZ," ++ W) := Asc.append (asc_lit (by decide)) hWa
    obtain ⟨x0, x1⟩ := xorFrom_lt (asc_all hb)
    have h6 : sizeS (Str.ofString "GPZZZ," ++ W) = 6 := size6 (by decide) (by decide +kernel) (by decide +kernel) (by decide +kernel)
    have l1 : (Str.ofString "$").length = 1 := by decide
    have l2 : (Str.ofString "GPZZZ,").length = 6 := by decide
    rw [hex_cut, Int.add_zero, show Str.ofString "$" ++ (Str.ofString "GPZZZ," ++ W) ++ (⟨#[42]⟩ ++ hh (xorFrom 0 (Str.ofString "GPZZZ," ++ W).cps.toList)) ++ tl = Str.ofString "$" ++ (Str.ofString "GPZZZ," ++ W) ++ ⟨#[42]⟩ ++ (hh (xorFrom 0 (Str.ofString "GPZZZ," ++ W).cps.toList) ++ tl) from str_cps (by simp only [app_cps, List.append_assoc])]
    refine ⟨_, starOk (c36 _) (freeC_app (freeC_lit (by decide)) (freeC_app (freeC_lit (by decide)) (figs_free hW (by omega)))) (dollar_cut _) (chkH_at _ x0 (by omega)).1 x0 (by omega) htl htll ?_ ?_ (asc_all hb) (by rw [h6]; decide) ?_ (fun z => absurd (PRes.err.inj z) (by decide))⟩
    · simp only [Str.length_append]; omega
    · simp only [Str.length_append]; omega
    · rw [if_neg (fun z => z rfl), h6, sl_to (by decide) (by decide), sl_all (by decide) (by decide), pvZ]
  rw [if_neg q5, if_neg q5]
  by_cases q6 : n.fmod 8 = 6
  · rw [if_pos q6]
    exact ⟨0, line6 _ lean⟩
  rw [if_neg q6]
  have hc42 := cr_free (c := 42) (r := n.fdiv 8) (by decide)
  have hca := cr_asc (n.fdiv 8)
  generalize wordN n = W at *
  generalize cr (n.fdiv 8) = tl at *
  have hs : Str.ofString "-" ++ W ++ tl = Str.ofString "-" ++ (W ++ tl) := str_cps (by simp only [app_cps, List.append_assoc])
  have l1 : (Str.ofString "-").length = 1 := by decide
  rw [hs] at e7 ⊢
  refine ⟨0, plainOk (lstrip_id (c := 45) (r := (W ++ tl).cps.toList) (by rw [app_cps]; rfl) (by decide +kernel)) (freeC_app (freeC_lit (by decide)) (freeC_app (figs_free hW (by omega)) hc42)) (n := Str.ofString "-" ++ (W ++ tl)) ?_ ?_ ?_ (asc_all (Asc.append (asc_lit (by decide)) (Asc.append hWa hca))) (if_pos e7) (fun z => absurd e7 z)⟩
  · unfold dollarS
    rw [sl_to (by decide) (by decide), if_neg (by decide +kernel)]
  · simp only [Str.length_append]; omega
  · simp only [Str.length_append]; omega

theorem free_of {x : Str} (h : FreeC 10 x) : Free x := h
theorem hex_free (v : Int) : FreeC 10 (hexT v) ∧ FreeC 10 (Txt.lower (hexT v)) := by
  have v0 := fmod_lo v (by decide : (0 : Int) < 256)
  have v1 := fmod_hi v (by decide : (0 : Int) < 256)
  obtain ⟨h1, h2, h3⟩ := chkH_at _ v0 v1
  rw [hexT_hh, hh_mod]
  refine ⟨freeC_app (freeC_lit (by decide)) h1.nl, ?_⟩
  rw [h3]
  exact freeC_app (freeC_lit (by decide)) h2.nl
theorem txN_free (n : Int) : Free (txN n) := by
  have hW := figs_free (c := 10) (wordN_figs n) (by omega)
  have htl := cr_free (c := 10) (r := n.fdiv 8) (by decide)
  have hm := figs_free (c := 10) (many_figs (r := n.fdiv 8) (wordN_figs n)) (by omega)
  have hx := fun v => (hex_free v).1
  have hx2 := fun v => (hex_free v).2
  refine free_of ?_
  unfold txN lineTx sumS
  generalize wordN n = W at *
  generalize cr (n.fdiv 8) = tl at *
  split
  · exact freeC_app (freeC_app (freeC_app (freeC_lit (by decide)) (freeC_app (freeC_app (freeC_lit (by decide)) hW) (freeC_lit (by decide)))) (hx _)) htl
  split
  · exact freeC_app (freeC_app (freeC_lit (by decide)) hm) htl
  split
  · exact freeC_app (freeC_app (freeC_lit (by decide)) (hx _)) htl
  split
  · exact freeC_app (freeC_app (freeC_app (freeC_app (freeC_lit (by decide)) hW) (freeC_lit (by decide))) (hx2 _)) htl
  split
  · exact freeC_app (freeC_app (freeC_app (freeC_lit (by decide)) (freeC_app (freeC_lit (by decide)) hW)) (hx _)) htl
  split
  · exact freeC_app (freeC_app (freeC_app (freeC_lit (by decide)) (freeC_app (freeC_lit (by decide)) hW)) (hx _)) htl
  split
  · exact htl
  · exact freeC_app (freeC_app (freeC_lit (by decide)) hW) htl
theorem strOk_asc {x : Str} (h : Asc x) : PyData.strOk x = true := by
  unfold PyData.strOk
  rw [← Array.all_toList]
  exact List.all_eq_true.mpr fun c hc => by
    have := h c hc
    simp only [decide_eq_true_eq]; omega
def OneOk (o : One) : Prop := PyData.strOk o.1 = true ∧ ∀ d ∈ o.2, kqdOk 6 d = true
theorem oneOk_lit {o : One} (h : PyData.strOk o.1 = true) (k : o.2.all (kqdOk 6) = true) : OneOk o := ⟨h, List.all_eq_true.mp k⟩
theorem oN_ok (n : Int) : OneOk (oN n) := by
  have hW := strOk_asc (figs_asc (wordN_figs n))
  have hD := strOk_asc (Asc.append (figs_asc (many_figs (r := n.fdiv 8) (wordN_figs n))) (cr_asc (n.fdiv 8)))
  unfold oN
  generalize manyS (wordN n) (n.fdiv 8) ++ cr (n.fdiv 8) = D at *
  generalize wordN n = W at *
  have l1 : ∀ x : String, (∀ c ∈ (Str.ofString x).cps.toList, c < 128) → kqdOk 6 (dsS x) = true := fun x h => strOk_asc h
  have k6 : ∀ ds : List Dat, (∀ d ∈ ds, kqdOk 5 d = true) → kqdOk 6 (.list ds) = true := fun ds h => List.all_eq_true.mpr h
  have kW : kqdOk 5 (.str W) = true := hW
  have kD : kqdOk 5 (.str D) = true := hD
  split
  · refine ⟨show PyData.strOk (Str.ofString "WPL") = true by decide +kernel, fun d hd => ?_⟩
    simp only [List.mem_cons, List.not_mem_nil, or_false] at hd
    rcases hd with rfl | rfl | rfl
    · decide +kernel
    · decide +kernel
    · refine k6 _ fun d hd => ?_
      simp only [List.mem_cons, List.not_mem_nil, or_false] at hd
      rcases hd with rfl | rfl
      · exact kW
      · decide +kernel
  split
  · refine ⟨show PyData.strOk (Str.ofString "TXT") = true by decide +kernel, fun d hd => ?_⟩
    simp only [List.mem_cons, List.not_mem_nil, or_false] at hd
    rcases hd with rfl | rfl | rfl
    · decide +kernel
    · decide +kernel
    · refine k6 _ fun d hd => ?_
      simp only [List.mem_cons, List.not_mem_nil, or_false] at hd
      rcases hd with rfl | rfl
      · decide +kernel
      · exact kD
  split
  · exact oneOk_lit (by decide +kernel) (by decide +kernel)
  split
  · refine ⟨show PyData.strOk (Str.ofString "maker") = true by decide +kernel, fun d hd => ?_⟩
    simp only [List.mem_cons, List.not_mem_nil, or_false] at hd
    rcases hd with rfl | rfl
    · decide +kernel
    · refine k6 _ fun d hd => ?_
      simp only [List.mem_cons, List.not_mem_nil, or_false] at hd
      rcases hd with rfl | rfl
      · exact kW
      · decide +kernel
  split
  · exact oneOk_lit (by decide +kernel) (by decide +kernel)
  split
  · exact oneOk_lit (by decide +kernel) (by decide +kernel)
  · exact oneOk_lit (by decide +kernel) (by decide +kernel)
theorem leanO_ok {lean : Bool} {o : One} (h : OneOk o) : OneOk (leanO lean o) := by
  unfold leanO
  split
  · exact oneOk_lit (by decide +kernel) (by decide +kernel)
  · exact h
theorem oneD_ok {o : One} (h : OneOk o) : kqdOk 7 (oneD o) = true :=
  List.all_eq_true.mpr fun d hd => by
    rcases List.mem_cons.mp hd with rfl | hd
    · exact h.1
    · exact h.2 d hd
theorem due_ok (way : Str) : ∀ os : List One, (∀ o ∈ os, OneOk o) → ∀ d ∈ dueL way os, kqdOk 7 d = true
  | [], _, d, hd => absurd hd List.not_mem_nil
  | o :: r, h, d, hd => by
    have ih := due_ok way r fun x hx => h x (.tail _ hx)
    have ho := h o (.head _)
    rw [dueL_cons] at hd
    split at hd
    · rcases List.mem_cons.mp hd with rfl | hd
      · exact oneD_ok ho
      · exact ih d hd
    · split at hd
      · rw [List.mem_singleton.mp hd]
        refine List.all_eq_true.mpr fun d hd => ?_
        rcases List.mem_cons.mp hd with rfl | hd
        · decide +kernel
        rcases List.mem_cons.mp hd with rfl | hd
        · exact ho.1
        · exact ho.2 d hd
      · exact ih d hd
theorem lines_law (lean : Bool) (way : Str) (hw : way = Str.ofString "raise" ∨ way = Str.ofString "yield" ∨ way = Str.ofString "ignore") (ms : List Int) :
    ∃ lns : List Ln, lns.map (·.1) = ms.map txN ∧ (∀ l ∈ lns, LineOk lean l) ∧ toldL (evsL way lean lns) = dueL way (ms.map fun n => leanO lean (oN n)) ∧ kqdOk 8 (.list (dueL way (ms.map fun n => leanO lean (oN n)))) = true := by
  refine ⟨ms.map fun n => (txN n, Classical.choose (line_ok n lean)), ?_, fun l hl => ?_, told_due lean way hw _ (fun n => (Classical.choose_spec (line_ok n lean)).2) ms, List.all_eq_true.mpr (due_ok way _ fun o ho => ?_)⟩
  · rw [List.map_map]; rfl
  · obtain ⟨n, _, rfl⟩ := List.mem_map.mp hl
    exact (Classical.choose_spec (line_ok n lean)).1
  · obtain ⟨n, _, rfl⟩ := List.mem_map.mp ho
    exact leanO_ok (oN_ok n)
end Mine
end
-- Lw2
section
open PySem PySem.W PyProof.Rows LCg
set_option maxRecDepth 100000
set_option linter.all false
namespace Mine
local macro_rules | `(tactic| walk_at "m_enter") => `(tactic| (refine' enterC ?k1 ?k2 ?k6 ?k7 ?k8 ?k9 ?kB ?kD ?_ ?c2 ?c3 ?c4; (case k1 => assumption); (case k2 => first | assumption | exact Top.nolimit (by assumption)); (case k6 => k_is); (case k7 => k_is); (case k8 => first | assumption | omega | decide); (case k9 => exact BindsTo.of_eq rfl); (case kB => exact rfl); (case kD => decide +kernel); (case c2 => exact rfl); (case c3 => exact rfl); (case c4 => exact rfl); k_whole; intro L' h' tk' cells' F' N' Y'; k_cells Y'; (try simp only [List.cons_append, List.nil_append] at N'); (try dsimp only); (try k_fold)))
local macro_rules | `(tactic| walk_at "m_enter0") => `(tactic| (refine' enter ?k1 ?k2 ?k6 ?k7 ?k8 ?k9 ?kB ?_ ?c2 ?c3 ?c4 ?c5; (case k1 => assumption); (case k2 => exact Top.nolimit (by assumption)); (case k6 => k_is); (case k7 => k_is); (case k8 => assumption); (case k9 => exact BindsTo.of_eq rfl); (case c5 => decide); (case kB => exact locs rfl); (case c2 => exact rfl); (case c3 => exact rfl); (case c4 => exact rfl); k_whole))
abbrev pmap (P Ls Rw Nm ax : Addr) (text : Str) (tt : Tok) (om : Option Value) : Str → Option Value := fun y =>
  if y = Str.ofString "number" then om else if y = Str.ofString "text" then some (.str text tt) else if y = Str.ofString "pieces" then some (.ref P) else if y = Str.ofString "lines" then some (.ref Ls) else if y = Str.ofString "rows" then some (.ref Rw) else if y = Str.ofString "numbers" then some (.ref Nm) else List.lookup y [(Str.ofString "script", .ref ax)]
theorem pmap_start {P Ls Rw Nm ax : Addr} {text : Str} {tt : Tok} (y : Str) : (if y = Str.ofString "pieces" then some (Value.ref P) else if y = Str.ofString "lines" then some (Value.ref Ls) else if y = Str.ofString "text" then some (.str text tt) else if y = Str.ofString "rows" then some (.ref Rw) else if y = Str.ofString "numbers" then some (.ref Nm) else List.lookup y [(Str.ofString "script", .ref ax)]) = pmap P Ls Rw Nm ax text tt none y := by
  unfold pmap
  by_cases q1 : y = Str.ofString "number"
  · subst q1; rw [if_neg (by decide), if_neg (by decide), if_neg (by decide), if_neg (by decide), if_neg (by decide), if_pos rfl]; rfl
  by_cases q2 : y = Str.ofString "text"
  · subst q2; rw [if_neg (by decide), if_neg (by decide), if_pos rfl, if_neg (by decide), if_pos rfl]
  · rw [if_neg q1, if_neg q2, if_neg q2]
theorem pmap_turn {P Ls Rw Nm ax : Addr} {text text' : Str} {tt tt' : Tok} {om : Option Value} {v : Value} (y : Str) : (if y = Str.ofString "text" then some (Value.str text' tt') else (fun y => if y = Str.ofString "number" then some v else pmap P Ls Rw Nm ax text tt om y) y) = pmap P Ls Rw Nm ax text' tt' (some v) y := by
  unfold pmap
  dsimp only
  by_cases q1 : y = Str.ofString "number"
  · subst q1; rw [if_neg (by decide), if_pos rfl, if_pos rfl]
  by_cases q2 : y = Str.ofString "text"
  · subst q2; rw [if_pos rfl, if_neg (by decide), if_pos rfl]
  · rw [if_neg q1, if_neg q2, if_neg q1, if_neg q1, if_neg q2, if_neg q2]
def hidL (L : Addr) (b : Nat) : Bool := b == L
theorem hidL_t {L b : Addr} (h : hidL L b = true) : b = L := by unfold hidL at h; simpa using h
theorem hidL_f {L b : Addr} (h : b ≠ L) : hidL L b = false := by unfold hidL; simpa using h
theorem hide_ff {g h : Heap} {L : Addr} {m : Str → Option Value} {env : Env} (F : Fr g L h m) (hf : env.frame = some L) (hk : env.scope.kind ≠ .module) : h.FunFrames (hideH (hidL L) h) [env] := by
  obtain ⟨o, ho, hd⟩ := ns_notFields F.ns
  exact ⟨hk, ⟨L, o, hf, hide_none (by unfold hidL; simp), ho, hd⟩, trivial⟩
theorem hide_base {g h : Heap} {L : Addr} {m : Str → Option Value} (F : Fr g L h m) : g.StaysIn (hideH (hidL L) h) := stays_hide F.keep fun a q => by rw [hidL_t q]; exact none_above F.above
theorem hide_keep {h h' : Heap} {L : Addr} (k : (hideH (hidL L) h).StaysIn h') : ∀ b o, b ≠ L → h.get? b = some o → h'.get? b = some o := fun b o n e => k b o (by rw [hide_some (hidL_f n)]; exact e)
theorem ways_at {i : Nat} {v : Value} {t1 t2 t3 t4 t5 : Tok} (h : (#[Value.str (Str.ofString "raise") t1, Value.str (Str.ofString "yield") t2, Value.str (Str.ofString "ignore") t3, Value.str (Str.ofString "skip") t4, Value.str (Str.ofString "") t5] : Array Value)[i]? = some v) :
    ∃ x t, v = .str x t ∧ ((i < 3 ∧ (x = Str.ofString "raise" ∨ x = Str.ofString "yield" ∨ x = Str.ofString "ignore")) ∨ (¬ i < 3 ∧ (x = Str.ofString "skip" ∨ x = Str.ofString ""))) := by
  match i, h with
  | 0, h => cases h; exact ⟨_, _, rfl, .inl ⟨by decide, .inl rfl⟩⟩
  | 1, h => cases h; exact ⟨_, _, rfl, .inl ⟨by decide, .inr (.inl rfl)⟩⟩
  | 2, h => cases h; exact ⟨_, _, rfl, .inl ⟨by decide, .inr (.inr rfl)⟩⟩
  | 3, h => cases h; exact ⟨_, _, rfl, .inr ⟨by decide, .inl rfl⟩⟩
  | 4, h => cases h; exact ⟨_, _, rfl, .inr ⟨by decide, .inr rfl⟩⟩
  | n + 5, h => simp at h
def madeS (i : Nat) : Str := if i < 3 then Str.ofString "made" else Str.ofString "refused"
theorem dats_made {zs : List Value} (hl : zs.length = 5) (hr : ∀ (i : Nat) (y : Value), zs[i]? = some y → ∃ t, y = Value.str (madeS i) t) : DatAll [] zs [dsS "made", dsS "made", dsS "made", dsS "refused", dsS "refused"] := by
  match zs, hl with
  | [a, b, c, d, e], _ =>
    obtain ⟨t1, h1⟩ := hr 0 a rfl
    obtain ⟨t2, h2⟩ := hr 1 b rfl
    obtain ⟨t3, h3⟩ := hr 2 c rfl
    obtain ⟨t4, h4⟩ := hr 3 d rfl
    obtain ⟨t5, h5⟩ := hr 4 e rfl
    subst h1 h2 h3 h4 h5
    exact .cons (.str _ _) (.cons (.str _ _) (.cons (.str _ _) (.cons (.str _ _) (.cons (.str _ _) .nil))))
theorem off1_mem {D : Addr} : ∀ {l : List (Addr × Obj)}, Off1 D l → ∀ q ∈ l, @Ne Nat q.1 D
  | [], _, _, hq => nomatch hq
  | p :: r, h, q, hq => by
    rcases List.mem_cons.mp hq with rfl | hq
    · exact h.1
    · exact off1_mem h.2 q hq
theorem news_reader {g h h' : Heap} {L x d : Addr} {m : Str → Option Value} {all : List (Addr × Obj)} {o od : Obj} (F : Fr g L h m) (N : News g L h all) (k : h.StaysIn h') (nx : h.get? x = none) (nd : h.get? d = none) (ex : h'.get? x = some o) (ed : h'.get? d = some od) : News g L h' ((x, o) :: (d, od) :: all) ∧ ∀ q ∈ all, @Ne Nat q.1 x ∧ @Ne Nat q.1 d := by
  refine ⟨fun p hp => ?_, fun q hq => ⟨fun e => ?_, fun e => ?_⟩⟩
  · rcases List.mem_cons.mp hp with rfl | hp
    · exact ⟨ex, fresh_for F nx⟩
    rcases List.mem_cons.mp hp with rfl | hp
    · exact ⟨ed, fresh_for F nd⟩
    · exact N.grown k p hp
  · have := (N q hq).1
    rw [show q.1 = x from e, nx] at this; cases this
  · have := (N q hq).1
    rw [show q.1 = d from e, nd] at this; cases this
def RdO (P : Params) (way buf : Str) (o : Obj) : Prop := ∃ k1 t1 k2 k3 t3, o = dictOf [ent P (Str.ofString "errors") k1 (.str way t1), ent P (Str.ofString "stream") k2 .none, ent P (Str.ofString "buffer") k3 (.str buf t3)] 3
theorem RdO.at {P : Params} {way buf : Str} {o : Obj} {h : Heap} {D : Addr} (x : RdO P way buf o) (e : h.get? D = some o) : IsRd P way buf h D := by
  obtain ⟨k1, t1, k2, k3, t3, rfl⟩ := x
  exact ⟨k1, t1, k2, k3, t3, e⟩
theorem RdO.of {P : Params} {way buf : Str} {o : Obj} {h : Heap} {D : Addr} (x : IsRd P way buf h D) (e : h.get? D = some o) : RdO P way buf o := by
  obtain ⟨k1, t1, k2, k3, t3, q⟩ := x
  rw [e] at q
  exact ⟨k1, t1, k2, k3, t3, Option.some.inj q⟩
theorem fresh1_cons {a : Addr} {p : Addr × Obj} {l : List (Addr × Obj)} (h : @Ne Nat p.1 a) (k : Fresh1 a l) : Fresh1 a (p :: l) := fun q hq => by
  rcases List.mem_cons.mp hq with rfl | hq
  · exact h
  · exact k q hq
theorem fresh1_lt {a : Addr} : ∀ {l : List (Addr × Obj)}, AllLt a l → Fresh1 a l := fun h q hq => Nat.ne_of_lt (allLt_mem h q hq)
theorem reader_step {P : Params} {way : Str} {g h h' : Heap} {L x d : Addr} {m : Str → Option Value} {all : List (Addr × Obj)} {n : Nat} (F : Fr g L h m) (N : News g L h all) (pw : PwN n all) (k : h.StaysIn h') (nx : h.get? x = none) (nd : h.get? d = none) (ex : h'.get? x = some (instObj 273 d)) (dx : @LT.lt Nat _ d x)
    (ed : ∃ k1 t1 k2 k3 t3, h'.get? d = some (dictOf [ent P (Str.ofString "errors") k1 (.str way t1), ent P (Str.ofString "stream") k2 .none, ent P (Str.ofString "buffer") k3 (.str (Str.ofString "") t3)] 3)) :
    ∃ oD, News g L h' ((x, instObj 273 d) :: (d, oD) :: all) ∧ PwN (n + 2) ((x, instObj 273 d) :: (d, oD) :: all) ∧ RdO P way (Str.ofString "") oD := by
  obtain ⟨k1, t1, k2, k3, t3, ed⟩ := ed
  obtain ⟨N', ne⟩ := news_reader F N k nx nd ex ed
  exact ⟨_, N', ⟨fresh1_cons (p := (d, _)) (Nat.ne_of_lt dx) fun q hq => (ne q hq).1, fun q hq => (ne q hq).2, pw⟩, _, _, _, _, _, rfl⟩
theorem lmap_start {P Ls Rw Nm ax R1 Rs Du To : Addr} {text : Str} {tt tl : Tok} {om : Option Value} (y : Str) :
    (if y = Str.ofString "place" then some (Value.int 0 tl) else (fun y => if y = Str.ofString "readers" then some (Value.ref Rs) else if y = Str.ofString "plain" then some (Value.ref R1) else if y = Str.ofString "due" then some (Value.ref Du) else if y = Str.ofString "told" then some (Value.ref To) else pmap P Ls Rw Nm ax text tt om y) y) =
      lmap Ls To Du Rs (fun y => if y = Str.ofString "plain" then some (.ref R1) else pmap P Ls Rw Nm ax text tt om y) 0 tl none none none none none none y := by
  by_cases q1 : y = Str.ofString "way"
  · subst q1; rfl
  by_cases q2 : y = Str.ofString "reader"
  · subst q2; rfl
  by_cases q3 : y = Str.ofString "one"
  · subst q3; rfl
  by_cases q4 : y = Str.ofString "ones"
  · subst q4; rfl
  by_cases q5 : y = Str.ofString "lean"
  · subst q5; rfl
  by_cases q6 : y = Str.ofString "piece"
  · subst q6; rfl
  by_cases q7 : y = Str.ofString "place"
  · subst q7; rfl
  by_cases q8 : y = Str.ofString "plain"
  · subst q8; rfl
  by_cases q9 : y = Str.ofString "lines"
  · subst q9; rfl
  · unfold lmap; simp only [if_neg q1, if_neg q2, if_neg q3, if_neg q4, if_neg q5, if_neg q6, if_neg q7, if_neg q8, if_neg q9]
def pcD (p : Str × Bool) : Dat := .list [.str p.1, .bool p.2]
def RetT (P : Shared → Prop) (f : Flow) (s' : Shared) : Prop := f = .ret (.bool true) ∧ P s'
theorem to_ret {M : Model} {A : Around} {env : Env} {body : List Stmt} {s : Shared} {Q : Flow → Shared → Prop} {E : Value → Shared → Prop} (P : Shared → Prop) (h : wpAny M A (execs body env) (RetT P) (fun _ _ => False) s) (k : ∀ s', P s' → Q (.ret (.bool true)) s') : wpAny M A (execs body env) Q E s :=
  wpAny_mono h (fun f s' ⟨e, p⟩ => by subst e; exact k s' p) fun _ _ x => x.elim
theorem mem_rot {α : Type} {p a b c : α} {l : List α} (h : p ∈ c :: a :: b :: l) : p ∈ a :: b :: c :: l := by
  simp only [List.mem_cons] at h ⊢
  rcases h with h | h | h | h
  · exact .inr (.inr (.inl h))
  · exact .inl h
  · exact .inr (.inl h)
  · exact .inr (.inr (.inr h))
theorem catS_snoc (l : List Str) (x : Str) : catS (l ++ [x]) = catS l ++ x := by
  induction l with
  | nil => exact (Str.append_empty x).trans (Str.empty_append x).symm
  | cons a r ih =>
    show a ++ catS (r ++ [x]) = (a ++ catS r) ++ x
    rw [ih]
    exact str_cps (by rw [app_cps, app_cps, app_cps, app_cps, List.append_assoc])
set_option maxHeartbeats 8000000 in
theorem law_spec {prog : Program} {w : World} {mean : ExcName → Option Value} {mg mb : Str → Option Value} {loose : List Str}
   {A : Around} {s : Shared} {R : Result → Shared → Prop} {ax : Addr} {vs : List Value} {ks : List Int}
   (X : (hd.heap_39 w.params).In s.heap) (T : Top hd.view_39 loose mean mg mb s.heap) (hh : A.handled = none) (hgd : A.guards = some []) (hfr : A.frames = some []) (hdp : A.depth < 500) (hu : A.units < 5000)
   (hl : s.heap.IsList ax vs.toArray) (hi : IntsAre vs ks) (hk : ks.length ≤ 63) (hbare : ∀ x ∈ s.gens, x.bare = true)
   (hret : ∀ h' gens' tk', s.heap.StaysIn h' → (∀ x ∈ gens', x.bare = true) → R (.ok (.ret (.bool true))) { s with heap := h', gens := gens', toks := tk' }) :
   codeAny (model prog w) A (.call (.ref 362) ⟨[.ref ax], []⟩) R s := by
  w_top off
  obtain ⟨hd0, dp, fr, gd, un⟩ := A
  dsimp only at hh hgd hfr hdp hu
  subst hh hgd hfr
  have hroom : dp < recursionLimit := Nat.lt_of_lt_of_le hdp (by decide)
  k_dflt (first | walk_at "m_enter0" | walk_at "m_enter")
  intro L h1 F N
  have gdef : True := trivial
  dsimp only
  generalize s.toks + _ = tk0
  replace F : Fr s.heap L h1 (fun y => List.lookup y [(Str.ofString "script", .ref ax)]) := F
  have K0 : Below { depth := dp, frames := some [], guards := some [], units := un } s.heap [] s.heap := ⟨rfl, fun _ _ e => e, trivial⟩
  refine to_ret (fun s' => ∃ h' gens' tk', s' = { s with heap := h', gens := gens', toks := tk' } ∧ s.heap.StaysIn h' ∧ ∀ x ∈ gens', x.bare = true) ?_ (fun s' ⟨h', gens', tk', e, a, b⟩ => by subst e; exact hret h' gens' tk' a b)
  clear hret
  refine cut (fun s' => ∃ h' tk Nm ys n, s' = { s with heap := h', toks := tk } ∧ Fr s.heap L h' (fun y => if y = Str.ofString "numbers" then some (.ref Nm) else List.lookup y [(Str.ofString "script", .ref ax)]) ∧ News s.heap L h' [(Nm, W.listOf ys.toArray n)] ∧ IntsAre ys (numsL ks)) ?_ ?_
  · cases hi with
    | nil =>
      k_steps
      rename Fr _ _ _ _ => F9
      rename News _ _ _ _ => N9
      exact ⟨rfl, _, _, _, [_], _, rfl, F9, N9, .cons _ _ .nil⟩
    | cons i t hr =>
      k_steps
      have hl1 : ({ s with heap := h1, toks := tk0 } : Shared).heap.IsList ax _ := hl.at fun o e => F.keep _ _ e
      have hln := hr.length
      simp only [List.length_cons] at hk
      refine wpAny_truthy_list hl1 (by simp; omega) ?_
      dsimp only
      rw [if_pos (by simp)]
      iterate 11 walk1
      refine wpAny_call ?_
      refine' each_spec (ks := _ :: _) (X.keeps F.keep) (T.keeps F.keep) ?B rfl ?k1 ?k2 hl1 (.cons _ _ hr) ?k3 (.inl rfl) (.inl rfl) ?k4
      case B => exact below_push K0 F rfl (fun q => nomatch q)
      case k1 => show dp + 1 < 800; omega
      case k2 => show un + 3 < 8000; omega
      case k3 => simpa using hk
      intro h5 tk5 D ys k5 nD eD hys
      dsimp only
      have fr5 := fresh_for F nD
      replace F := F.keeps k5
      have N5 : News s.heap L h5 [(D, W.listOf ys.toArray ys.length)] := fun p hp => by
        rw [List.mem_singleton.mp hp]
        exact ⟨eD, fr5⟩
      k_steps
      rename Fr _ _ _ _ => F9
      rename News _ _ _ _ => N9
      exact ⟨rfl, _, _, _, _, _, rfl, F9, N9, hys⟩
  rintro s' ⟨h2, tk2, Nm, ys, nN, rfl, F2, N2, hys⟩
  have hnl := numsL_len ks
  generalize hns : numsL ks = ns at hys hnl
  clear F N
  have hyl : ys.length = ns.length := hys.length
  refine cut (fun s' => ∃ h' tk Rw rs nl, s' = { s with heap := h', toks := tk } ∧ Fr s.heap L h' (fun y => if y = Str.ofString "rows" then some (.ref Rw) else if y = Str.ofString "numbers" then some (.ref Nm) else List.lookup y [(Str.ofString "script", .ref ax)]) ∧
     News s.heap L h' ((Rw, LCg.lst rs) :: (nl ++ [(Nm, W.listOf ys.toArray nN)])) ∧ rs.length = ns.length ∧ ∀ (i : Nat) y, rs[i]? = some y → PairIn nl y (txN (ns.getD i 0)) (dxN (ns.getD i 0))) ?_ ?_
  · k_dflt (refine Assign_ListComp_U (F₀ := F2) rfl (by with_unfolding_all rfl) (by with_unfolding_all rfl) (by decide) (by rfl) (by decide) (by rfl) (by rfl) (by rfl) ?_)
    walk1
    refine CompSrc.ledger rfl F2 N2 (.head _) (by rw [List.size_toArray, hyl, sizeLine_eq]; omega) fun g => ?_
    refine rest_grow (fun i nl y => PairIn nl y (txN (ns.getD i 0)) (dxN (ns.getD i 0))) (fun i l l' y hl ⟨D, t, u, e1, e2, e3⟩ => ⟨D, t, u, e1, hl _ e2, e3.mono hl⟩) (fun i v I oI C oC D m₂ rs nl h tk E' hi hv hC hx F' N' off ne hS => ?_) (.inr ⟨_, .head _, rfl, _, rfl⟩) ?_
    · obtain ⟨t, rfl⟩ : ∃ t, v = .int (ns.getD i 0) t := ints_get hys (by simpa using hv)
      iterate 8 walk1
      refine wpAny_call ?_
      refine' line_spec (X.keeps F'.keep) (T.keeps F'.keep) ?B2 rfl ?k21 ?k22 ?k24
      case B2 => exact below_push K0 F' rfl (fun q => nomatch q)
      case k21 => show dp + 1 < 800; omega
      case k22 => show un + 3 < 8000; omega
      intro h5 tk5 nl5 v5 k5 hm5 hp5
      refine comp_made (nl := nl5) F' N' off k5 hm5 ?_ ⟨nl5, rfl, hp5⟩
      exact .inr ⟨_, List.mem_append_right _ (List.mem_append_right _ (.head _)), rfl, _, rfl⟩
    · intro rs nl hl hr
      intro D h tk F' N' o1
      exact ⟨rfl, _, _, D, rs, nl, rfl, F', N', by rw [hl, List.size_toArray, hyl], hr⟩
  rintro s' ⟨h3, tk3, Rw, rs, nl, rfl, F3, N3, hrl, hrs⟩
  clear F2 N2
  refine cut (fun s' => ∃ h' tk tt, s' = { s with heap := h', toks := tk } ∧ Fr s.heap L h' (fun y => if y = Str.ofString "text" then some (.str (Txt.join (Str.ofString "\n") (ns.map txN)) tt) else if y = Str.ofString "rows" then some (.ref Rw) else if y = Str.ofString "numbers" then some (.ref Nm) else List.lookup y [(Str.ofString "script", .ref ax)]) ∧
     News s.heap L h' ((Rw, LCg.lst rs) :: (nl ++ [(Nm, W.listOf ys.toArray nN)]))) ?_ ?_
  · iterate 6 walk1
    k_dflt (refine ListComp_U (F₀ := F3) (by with_unfolding_all rfl) (by decide) (by rfl) (by decide) (by rfl) ?_)
    walk1
    refine CompSrc.ledger rfl F3 N3 (.head _) (by rw [List.size_toArray, hrl, sizeLine_eq]; omega) fun g => ?_
    refine rest_each (fun i y => ∃ t, y = .str (txN (ns.getD i 0)) t) (fun i v I oI C oC D m₂ zs h tk E' hi hv hC hx F' N' off ne => ?_) ?_
    · obtain ⟨D1, t1, u1, rfl, hD1, hu1⟩ := hrs i v (by simpa using hv)
      have hT1 : IsTup h D1 #[.str (txN (ns.getD i 0)) t1, u1] := by
        refine ⟨_, (N' _ (.tail _ (.tail _ (.tail _ (.tail _ (List.mem_append_left _ hD1)))))).1, rfl, _, rfl⟩
      k_steps
      exact ⟨_, _, _, rfl, F', N', off, .inr ⟨_, .head _, rfl, _, rfl⟩, rfl, _, rfl⟩
    · intro zs hl hr
      intro D h tk F' N' o1
      have hzs : StrsAre zs (ns.map txN) := by
        have := strs_rel (g := fun i => txN (ns.getD i 0)) (by rw [hl, List.size_toArray, hrl]) hr
        rwa [range_map_getD] at this
      have hsum := sum_le (fun x : Int => (txN x).length) 120 txN_len ns
      walk1
      refine join_list (D := D) (items := zs.toArray) ⟨_, (N' _ (.head _)).1, rfl, _, rfl⟩ hzs ?_ ?_
      · rw [List.map_map]
        show (ns.map fun x => (txN x).length).sum + _ ≤ _
        rw [List.length_map, show (Str.ofString "\n").length = 1 by decide]
        omega
      intro t9 k9
      generalize Txt.join (Str.ofString "\n") (ns.map txN) = text0
      have N9 : News s.heap L h ((Rw, LCg.lst rs) :: (nl ++ [(Nm, W.listOf ys.toArray nN)])) := fun p hp => N' p (.tail _ hp)
      clear N'
      generalize nl ++ [(Nm, W.listOf ys.toArray nN)] = others at *
      dsimp only
      k_steps
      rename Fr _ _ _ _ => F10
      rename News _ _ _ _ => N10
      exact ⟨rfl, _, _, _, rfl, F10, N10⟩
  rintro s' ⟨h4, tk4, tt4, rfl, F4, N4⟩
  clear F3 N3
  have htl : (Txt.join (Str.ofString "\n") (ns.map txN)).length ≤ 1000 := join_len0 ns hnl
  generalize htx : Txt.join (Str.ofString "\n") (ns.map txN) = text0 at *
  refine cut (fun s' => ∃ h' tk Ls ls, s' = { s with heap := h', toks := tk } ∧ Fr s.heap L h' (fun y => if y = Str.ofString "lines" then some (.ref Ls) else if y = Str.ofString "text" then some (.str text0 tt4) else if y = Str.ofString "rows" then some (.ref Rw) else if y = Str.ofString "numbers" then some (.ref Nm) else List.lookup y [(Str.ofString "script", .ref ax)]) ∧
     News s.heap L h' ((Ls, LCg.lst ls) :: (Rw, LCg.lst rs) :: (nl ++ [(Nm, W.listOf ys.toArray nN)])) ∧ DatAll nl ls (ns.map dxN)) ?_ ?_
  · k_dflt (refine Assign_ListComp_U (F₀ := F4) rfl (by with_unfolding_all rfl) (by with_unfolding_all rfl) (by decide) (by rfl) (by decide) (by rfl) (by rfl) (by rfl) ?_)
    walk1
    refine CompSrc.ledger rfl F4 N4 (.head _) (by rw [List.size_toArray, hrl, sizeLine_eq]; omega) fun g => ?_
    refine rest_each (fun i y => DatIn nl y (dxN (ns.getD i 0))) (fun i v I oI C oC D m₂ zs h tk E' hi hv hC hx F' N' off ne => ?_) ?_
    · obtain ⟨D1, t1, u1, rfl, hD1, hu1⟩ := hrs i v (by simpa using hv)
      have hT1 : IsTup h D1 #[.str (txN (ns.getD i 0)) t1, u1] := by
        refine ⟨_, (N' _ (.tail _ (.tail _ (.tail _ (.tail _ (List.mem_append_left _ hD1)))))).1, rfl, _, rfl⟩
      k_steps
      exact ⟨_, _, _, rfl, F', N', off, .inr ⟨_, .head _, rfl, _, rfl⟩, rfl, hu1⟩
    · intro zs hl hr
      intro D h tk F' N' o1
      refine ⟨rfl, _, _, D, zs, rfl, F', N', ?_⟩
      have := datAll_rel (g := fun i => dxN (ns.getD i 0)) (by rw [hl, List.size_toArray, hrl]) hr
      rwa [range_map_getD] at this
  rintro s' ⟨h5, tk5, Ls, ls, rfl, F5, N5, hls⟩
  clear F4 N4
  refine cut (fun s' => ∃ h' tk P, s' = { s with heap := h', toks := tk } ∧ Fr s.heap L h' (pmap P Ls Rw Nm ax text0 tt4 none) ∧
     News s.heap L h' ((P, W.listOf #[] 0) :: (Ls, LCg.lst ls) :: (Rw, LCg.lst rs) :: (nl ++ [(Nm, W.listOf ys.toArray nN)])) ∧ ∀ q ∈ (Ls, LCg.lst ls) :: (Rw, LCg.lst rs) :: (nl ++ [(Nm, W.listOf ys.toArray nN)]), @Ne Nat q.1 P) ?_ ?_
  · generalize nl ++ [(Nm, W.listOf ys.toArray nN)] = others at *
    k_steps
    rename Fr _ _ _ _ => F9
    rename News _ _ _ _ => N9
    have l9 := (by assumption : @LT.lt Nat _ Ls _ ∧ @LT.lt Nat _ Rw _ ∧ AllLt _ others)
    refine ⟨rfl, _, _, _, rfl, fr_congr F9 pmap_start, N9, fun q hq => ?_⟩
    rcases List.mem_cons.mp hq with rfl | hq
    · exact Nat.ne_of_lt l9.1
    rcases List.mem_cons.mp hq with rfl | hq
    · exact Nat.ne_of_lt l9.2.1
    · exact Nat.ne_of_lt (allLt_mem l9.2.2 q hq)
  rintro s' ⟨h6, tk6, P, rfl, F6, N6, hoP⟩
  clear F5 N5
  have hnlo : ∀ q ∈ nl, q ∈ nl ++ [(Nm, W.listOf ys.toArray nN)] := fun q hq => List.mem_append_left _ hq
  generalize nl ++ [(Nm, W.listOf ys.toArray nN)] = others at *
  refine wpAny_execs_cons ?_
  refine for_list ?_
  iterate 11 walk1
  refine wpAny_call ?_
  refine' each_spec (X.keeps F6.keep) (T.keeps F6.keep) ?B5 rfl ?k51 ?k52 (hl.at fun o e => F6.keep _ _ e) hi hk (.inr rfl) (.inr rfl) ?k54
  case B5 => exact below_push K0 F6 rfl (fun q => nomatch q)
  case k51 => show dp + 1 < 800; omega
  case k52 => show un + 3 < 8000; omega
  intro h7 tk7 D0 qs k7 nD0 eD0 hqs
  have fr7 := fresh_for F6 nD0
  have hDP : @Ne Nat D0 P := fun q => by
    rw [q, (N6 _ (.head _)).1] at nD0; cases nD0
  replace F6 := F6.keeps k7
  replace N6 := N6.grown k7
  have N7 : News s.heap L h7 ((P, W.listOf #[] 0) :: (D0, W.listOf qs.toArray qs.length) :: (Ls, LCg.lst ls) :: (Rw, LCg.lst rs) :: others) := fun p hp => by
    rcases List.mem_cons.mp hp with rfl | hp
    · exact N6 _ (.head _)
    rcases List.mem_cons.mp hp with rfl | hp
    · exact ⟨eD0, fr7⟩
    · exact N6 _ (.tail _ hp)
  dsimp only
  have hqz : qs.toArray.size ≤ 24 := by rw [List.size_toArray, hqs.length]; exact eachL_len ks
  refine ⟨D0, qs.toArray, fun I i s' => ∃ h' tk om ps c, ∃ pcs : List (Str × Bool), ∃ text tt nl2 oI, s' = { s with heap := h', toks := tk } ∧ Fr s.heap L h' (pmap P Ls Rw Nm ax text tt om) ∧ 
    News s.heap L h' ((I, oI) :: (P, W.listOf ps.toArray c) :: (D0, W.listOf qs.toArray qs.length) :: (Ls, LCg.lst ls) :: (Rw, LCg.lst rs) :: (nl2 ++ others)) ∧ @Ne Nat I P ∧ (∀ p ∈ (D0, W.listOf qs.toArray qs.length) :: (Ls, LCg.lst ls) :: (Rw, LCg.lst rs) :: (nl2 ++ others), p.1 ≠ P ∧ p.1 ≠ I) ∧ h'.IsListIter I D0 i ∧ i ≤ qs.toArray.size ∧ DatAll nl2 ps (pcs.map pcD) ∧ ps.length ≤ i ∧ catS (pcs.map (·.1)) ++ text = text0, rfl, rfl, ?_, ?_, ?_, ?_, ?_⟩
  · exact ⟨_, eD0, rfl, _, rfl⟩
  · intro h' hs hit
    obtain ⟨oI, hI, _⟩ := id hit
    have ltP := Heap.lt_size (N6 _ (.head _)).1
    refine ⟨h', tk7, none, [], 0, [], text0, tt4, [], oI, rfl, F6.keeps hs, fun p hp => ?_, Nat.ne_of_gt ltP, fun p hp => ?_, hit, Nat.zero_le _, .nil, Nat.le_refl _, Str.empty_append _⟩
    · rcases List.mem_cons.mp hp with rfl | hp
      · exact ⟨hI, Nat.ne_of_gt F6.ns.lt, next_is_new F6⟩
      · exact N7.grown hs p hp
    · refine ⟨?_, Nat.ne_of_lt (Heap.lt_size (N7 p (.tail _ hp)).1)⟩
      rcases List.mem_cons.mp hp with rfl | hp
      · exact hDP
      · exact hoP p hp
  · rintro I i _ ⟨h', tk, om, ps, c, pcs, text, tt, nl2, oI, rfl, F', N', hne, hoff, hit, hi, hps, hpl, hcat⟩
    exact ⟨hit, ⟨_, (N' _ (.tail _ (.tail _ (.head _)))).1, rfl, _, rfl⟩, hi⟩
  · rintro I i _ x hx ⟨h', tk, om, ps, c, pcs, text, tt, nl2, oI, rfl, F', N', hne, hoff, hit, hi, hps, hpl, hcat⟩ h8 hit8 hs8
    obtain ⟨t, rfl⟩ := ints_get hqs (by simpa using hx)
    have hil := (Array.getElem?_eq_some_iff.mp hx).1
    generalize (eachL ks 1 24).getD i 0 = k at *
    have NI := N' _ (.head _)
    have F8 := fr_ext F' NI.2.2 NI.2.1 (same_ext hs8)
    obtain ⟨oI8, hI8, hI8'⟩ := id hit8
    have N8 : News s.heap L h8 ((I, oI8) :: (P, W.listOf ps.toArray c) :: (D0, W.listOf qs.toArray qs.length) :: (Ls, LCg.lst ls) :: (Rw, LCg.lst rs) :: (nl2 ++ others)) := fun p hp => by
      rcases List.mem_cons.mp hp with rfl | hp
      · exact ⟨hI8, NI.2⟩
      · exact news_ext (fun q hq => N' q (.tail _ hq)) (fun q hq => by
          rcases List.mem_cons.mp hq with rfl | hq
          · exact Ne.symm hne
          · exact (hoff q hq).2) (same_ext hs8) p hp
    have htl2 : text.length ≤ 1000 := by
      have := congrArg Str.length hcat
      rw [Str.length_append] at this; omega
    have hpz : ps.toArray.size ≤ sizeLine := by rw [List.size_toArray, sizeLine_eq]; omega
    clear hit hs8 N' F' NI hx F6 N6 N7
    generalize hoth : (D0, W.listOf qs.toArray qs.length) :: (Ls, LCg.lst ls) :: (Rw, LCg.lst rs) :: (nl2 ++ others) = oth2 at N8 hoff
    have hk0 := fmod_lo k (by decide : (0 : Int) < 12)
    have fin : ∀ h9 tk9 lx t1 t2, Fr s.heap L h9 (fun y => if y = Str.ofString "text" then some (Value.str (Txt.slice text (some (k.fmod 12)) none) t2) else (fun y => if y = Str.ofString "number" then some (Value.int k t) else pmap P Ls Rw Nm ax text tt om y) y) →
        News s.heap L h9 ((lx, W.listOf #[Value.str (Txt.slice text none (some (k.fmod 12))) t1, Value.bool ((k.fdiv 12).fmod 3 == 2)] 0) :: (I, oI8) :: (P, W.listOf (ps ++ [Value.ref lx]).toArray (c + 1)) :: oth2) → @Ne Nat lx P → @Ne Nat lx I →
        ∃ h' tk om ps c, ∃ pcs : List (Str × Bool), ∃ text tt nl2 oI, ({ s with heap := h9, toks := tk9 } : Shared) = { s with heap := h', toks := tk } ∧ Fr s.heap L h' (pmap P Ls Rw Nm ax text tt om) ∧ 
          News s.heap L h' ((I, oI) :: (P, W.listOf ps.toArray c) :: (D0, W.listOf qs.toArray qs.length) :: (Ls, LCg.lst ls) :: (Rw, LCg.lst rs) :: (nl2 ++ others)) ∧ @Ne Nat I P ∧ (∀ p ∈ (D0, W.listOf qs.toArray qs.length) :: (Ls, LCg.lst ls) :: (Rw, LCg.lst rs) :: (nl2 ++ others), p.1 ≠ P ∧ p.1 ≠ I) ∧ h'.IsListIter I D0 (i + 1) ∧ i + 1 ≤ qs.toArray.size ∧ DatAll nl2 ps (pcs.map pcD) ∧ ps.length ≤ i + 1 ∧ catS (pcs.map (·.1)) ++ text = text0 := by
      intro h9 tk9 lx t1 t2 F9 N9 x1 x2
      subst hoth
      refine ⟨h9, tk9, some (.int k t), ps ++ [.ref lx], c + 1, pcs ++ [(Txt.slice text none (some (k.fmod 12)), (k.fdiv 12).fmod 3 == 2)], _, t2, (lx, W.listOf #[Value.str (Txt.slice text none (some (k.fmod 12))) t1, Value.bool ((k.fdiv 12).fmod 3 == 2)] 0) :: nl2, oI8, rfl, fr_congr F9 pmap_turn, fun p hp => N9 p ?_, hne, fun p hp => ?_, ⟨oI8, (N9 _ (.tail _ (.head _))).1, hI8'⟩, hil, ?_, ?_, ?_⟩
      · simp only [List.mem_cons, List.mem_append] at hp ⊢
        grind
      · simp only [List.mem_cons, List.mem_append] at hp
        have h0 := fun q => hoff q
        simp only [List.mem_cons, List.mem_append] at h0
        rcases hp with e | e | e | (e | e) | e
        · exact hoff p (e ▸ .head _)
        · exact hoff p (e ▸ .tail _ (.head _))
        · exact hoff p (e ▸ .tail _ (.tail _ (.head _)))
        · subst e; exact ⟨x1, x2⟩
        · exact hoff p (.tail _ (.tail _ (.tail _ (List.mem_append_left _ e))))
        · exact hoff p (.tail _ (.tail _ (.tail _ (List.mem_append_right _ e))))
      · rw [List.map_append]
        exact datAll_app (hps.mono fun p hp => .tail _ hp) (.cons (.list (.head _) (.cons (.str _ _) (.cons (.bool _) .nil))) .nil)
      · rw [List.length_append]; simpa using hpl
      · rw [List.map_append, List.map_cons, List.map_nil, catS_snoc, ← hcat]
        conv => rhs; rw [← slice_both text hk0]
        exact str_cps (by simp only [app_cps, List.append_assoc])
    k_steps
    rename Fr _ _ _ _ => F9
    rename News _ _ _ _ => N9
    have l9 := (by assumption : @LT.lt Nat _ I _ ∧ @LT.lt Nat _ P _ ∧ AllLt _ oth2)
    refine append_K F9 N9 (Upd.tail (Nat.ne_of_gt l9.2.1) (Upd.tail hne (Upd.head fun q hq => (hoff q hq).1))) ?_ hpz
    intro h10 F10 N10
    try dsimp only at N10
    have hpush : ∀ v : Value, ps.toArray.push v = (ps ++ [v]).toArray := fun v => by simp
    rw [hpush] at N10
    clear F9 N9
    k_steps
    rename Fr _ _ _ _ => F11
    rename News _ _ _ _ => N11
    exact TurnF.next (fin _ _ _ _ _ F11 N11 (Nat.ne_of_gt l9.2.1) (Nat.ne_of_gt l9.1))
  · rintro I _ h3 ⟨h', tk, om, ps, c, pcs, text, tt, nl2, oI, rfl, F', N', hne, hoff, hit, hi, hps, hpl, hcat⟩ hx3
    have NI := N' _ (.head _)
    have F3 := fr_ext F' NI.2.2 NI.2.1 hx3
    have N3 : News s.heap L h3 ((P, W.listOf ps.toArray c) :: (D0, W.listOf qs.toArray qs.length) :: (Ls, LCg.lst ls) :: (Rw, LCg.lst rs) :: (nl2 ++ others)) := news_ext (fun q hq => N' q (.tail _ hq)) (fun q hq => by
      rcases List.mem_cons.mp hq with rfl | hq
      · exact Ne.symm hne
      · exact (hoff q hq).2) hx3
    have hoff3 : ∀ p ∈ (D0, W.listOf qs.toArray qs.length) :: (Ls, LCg.lst ls) :: (Rw, LCg.lst rs) :: (nl2 ++ others), @Ne Nat p.1 P := fun p hp => (hoff p hp).1
    clear F' N' hit hx3 NI F6 N6 N7 hoff hoP
    generalize hth : (D0, W.listOf qs.toArray qs.length) :: (Ls, LCg.lst ls) :: (Rw, LCg.lst rs) :: (nl2 ++ others) = oth3 at N3 hoff3
    have hpz : ps.toArray.size ≤ sizeLine := by rw [List.size_toArray, sizeLine_eq]; omega
    have hpz2 : ∀ v : Value, (ps.toArray.push v).size ≤ sizeLine := fun v => by rw [Array.size_push, List.size_toArray, sizeLine_eq]; omega
    have hpush : ∀ (l : List Value) (v : Value), l.toArray.push v = (l ++ [v]).toArray := fun l v => by simp
    dsimp only
    refine cut (fun s' => ∃ h' tk x1 t1, s' = { s with heap := h', toks := tk } ∧ Fr s.heap L h' (pmap P Ls Rw Nm ax text tt om) ∧ News s.heap L h' ((x1, W.listOf #[Value.str text t1, Value.bool false] 0) :: (P, W.listOf (ps ++ [Value.ref x1]).toArray (c + 1)) :: oth3) ∧ @Ne Nat x1 P) ?_ ?_
    · k_steps
      rename Fr _ _ _ _ => F9
      rename News _ _ _ _ => N9
      have l9 := (by assumption : @LT.lt Nat _ P _ ∧ AllLt _ oth3)
      refine append_K F9 N9 (Upd.tail (Nat.ne_of_gt l9.1) (Upd.head fun q hq => hoff3 q hq)) ?_ hpz
      intro h10 F10 N10
      try dsimp only at N10
      rw [hpush] at N10
      clear F9 N9
      k_steps
      exact ⟨rfl, _, _, _, _, rfl, F10, N10, Nat.ne_of_gt l9.1⟩
    rintro s' ⟨h11, tk11, x1, t11, rfl, F11, N11, nx1⟩
    clear F3 N3
    refine cut (fun s' => ∃ h' tk x2 t2, s' = { s with heap := h', toks := tk } ∧ Fr s.heap L h' (pmap P Ls Rw Nm ax text tt om) ∧ News s.heap L h' ((P, W.listOf (ps ++ [Value.ref x1, Value.ref x2]).toArray (c + 1 + 1)) :: (x2, W.listOf #[Value.str (Str.ofString "\n") t2, Value.bool false] 0) :: (x1, W.listOf #[Value.str text t11, Value.bool false] 0) :: oth3) ∧ @Ne Nat x2 P) ?_ ?_
    · have hpz3 : (ps ++ [Value.ref x1]).toArray.size ≤ sizeLine := by have := hpz2 (.ref x1); rwa [hpush] at this
      k_steps
      rename Fr _ _ _ _ => F9
      rename News _ _ _ _ => N9
      have l9 := (by assumption : @LT.lt Nat _ x1 _ ∧ @LT.lt Nat _ P _ ∧ AllLt _ oth3)
      refine append_K F9 N9 (Upd.tail (Nat.ne_of_gt l9.2.1) (Upd.tail nx1 (Upd.head fun q hq => hoff3 q hq))) ?_ hpz3
      intro h10 F10 N10
      try dsimp only at N10
      rw [hpush, List.append_assoc] at N10
      clear F9 N9
      k_steps
      exact ⟨rfl, _, _, _, _, rfl, F10, fun p hp => N10 p (mem_rot hp), Nat.ne_of_gt l9.2.1⟩
    rintro s' ⟨h12, tk12, x2, t12, rfl, F12, N12, nx2⟩
    clear F11 N11
    have hP2 : DatAll ((x2, W.listOf #[Value.str (Str.ofString "\n") t12, Value.bool false] 0) :: (x1, W.listOf #[Value.str text t11, Value.bool false] 0) :: nl2) (ps ++ [Value.ref x1, Value.ref x2]) ((pcs ++ [(text, false), (nlS, false)]).map pcD) := by
      rw [List.map_append]
      exact datAll_app (hps.mono fun p hp => .tail _ (.tail _ hp)) (.cons (.list (.tail _ (.head _)) (.cons (.str _ _) (.cons (.bool _) .nil))) (.cons (.list (.head _) (.cons (.str _ _) (.cons (.bool _) .nil))) .nil))
    have hcat2 : catS ((pcs ++ [(text, false), (nlS, false)]).map (·.1)) = text0 ++ nlS := by
      rw [List.map_append]
      show catS (pcs.map (·.1) ++ ([text] ++ [nlS])) = _
      rw [← List.append_assoc, catS_snoc, catS_snoc, hcat]
    clear hps hcat hpz hpz2 hpush
    generalize hpcs : pcs ++ [(text, false), (nlS, false)] = pcs2 at hP2 hcat2
    generalize hps2 : ps ++ [Value.ref x1, Value.ref x2] = ps2 at hP2 N12
    have hpl2 : ps2.length ≤ 26 := by rw [← hps2, List.length_append]; show _ + 2 ≤ 26; omega
    have hot4 : ∀ q ∈ (x2, W.listOf #[Value.str (Str.ofString "\n") t12, Value.bool false] 0) :: (x1, W.listOf #[Value.str text t11, Value.bool false] 0) :: oth3, @Ne Nat q.1 P := fun q hq => by
      rcases List.mem_cons.mp hq with rfl | hq
      · exact nx2
      rcases List.mem_cons.mp hq with rfl | hq
      · exact nx1
      · exact hoff3 q hq
    have hnlP : ∀ q ∈ (x2, W.listOf #[Value.str (Str.ofString "\n") t12, Value.bool false] 0) :: (x1, W.listOf #[Value.str text t11, Value.bool false] 0) :: nl2, q ∈ (x2, W.listOf #[Value.str (Str.ofString "\n") t12, Value.bool false] 0) :: (x1, W.listOf #[Value.str text t11, Value.bool false] 0) :: oth3 := fun q hq => by
      rcases List.mem_cons.mp hq with rfl | hq
      · exact .head _
      rcases List.mem_cons.mp hq with rfl | hq
      · exact .tail _ (.head _)
      · exact .tail _ (.tail _ (hth ▸ .tail _ (.tail _ (.tail _ (List.mem_append_left _ hq)))))
    have hnlL : ∀ q ∈ (Ls, LCg.lst ls) :: nl, q ∈ (x2, W.listOf #[Value.str (Str.ofString "\n") t12, Value.bool false] 0) :: (x1, W.listOf #[Value.str text t11, Value.bool false] 0) :: oth3 := fun q hq => by
      rcases List.mem_cons.mp hq with rfl | hq
      · exact .tail _ (.tail _ (hth ▸ .tail _ (.head _)))
      · exact .tail _ (.tail _ (hth ▸ .tail _ (.tail _ (.tail _ (List.mem_append_right _ (hnlo q hq))))))
    generalize (x2, W.listOf #[Value.str (Str.ofString "\n") t12, Value.bool false] 0) :: (x1, W.listOf #[Value.str text t11, Value.bool false] 0) :: nl2 = nlP at hP2 hnlP
    generalize (x2, W.listOf #[Value.str (Str.ofString "\n") t12, Value.bool false] 0) :: (x1, W.listOf #[Value.str text t11, Value.bool false] 0) :: oth3 = oth4 at N12 hot4 hnlP hnlL
    clear hth nx1 nx2 hoff3
    clear hps2 hpcs
    refine cut (fun s' => ∃ h' tk To ts, s' = { s with heap := h', toks := tk } ∧ Fr s.heap L h' (fun y => if y = Str.ofString "told" then some (.ref To) else pmap P Ls Rw Nm ax text tt om y) ∧ News s.heap L h' ((To, LCg.lst ts) :: (P, W.listOf ps2.toArray (c + 1 + 1)) :: oth4) ∧ (∀ q ∈ (P, W.listOf ps2.toArray (c + 1 + 1)) :: oth4, @Ne Nat q.1 To) ∧ DatAll [] ts [dsS "made", dsS "made", dsS "made", dsS "refused", dsS "refused"]) ?_ ?_
    · k_dflt (refine Assign_ListComp_T (F₀ := F12) rfl (by with_unfolding_all rfl) (by with_unfolding_all rfl) (by decide) (by rfl) (by decide) (by rfl) (by rfl) (by rfl) ?_)
      k_steps
      rename Fr _ _ _ _ => F9
      rename News _ _ _ _ => N9
      refine SrcT.at (its := #[_, _, _, _, _]) rfl F9 N9 (.head _) rfl rfl (by rw [sizeLine_eq]; show 5 ≤ 16777216; decide) fun g => ?_
      refine rest_each (fun i y => ∃ t, y = .str (madeS i) t) (fun i v I oI C oC D m₂ zs h tk E' hi hv hC hx F' N' off ne => ?_) ?_
      · obtain ⟨wv, tv, rfl, hwv⟩ := ways_at hv
        iterate 8 walk1
        refine wpAny_call ?_
        rcases hwv with ⟨hi3, hwv⟩ | ⟨hi3, hwv⟩
        · refine' made_ok (base := hideH (hidL L) h) (X.keeps (hide_base F')) (T.keeps (hide_base F')) hide_stays (Nat.le_of_eq hide_size) ?q1 ?q2 rfl rfl rfl (hide_ff F' rfl (fun q => nomatch q)) hwv ?q3
          case q1 => show dp + 1 < 600; omega
          case q2 => show un + 3 < 6000; omega
          intro h5 tk5 t5 k5 _ n5
          obtain ⟨F5, N5⟩ := fr_hide F' N' (hide_keep k5) (n5 L (.head _) _ F'.ns)
          refine ⟨h5, tk5, _, rfl, F5, N5, off, ⟨_, .head _, rfl, _, rfl⟩, rfl, t5, ?_⟩
          rw [show madeS i = Str.ofString "made" from if_pos hi3]
        · refine' made_bad (base := hideH (hidL L) h) (X.keeps (hide_base F')) (T.keeps (hide_base F')) hide_stays (Nat.le_of_eq hide_size) ?q4 ?q5 rfl rfl rfl (hide_ff F' rfl (fun q => nomatch q)) hwv ?q6
          case q4 => show dp + 1 < 600; omega
          case q5 => show un + 3 < 6000; omega
          intro h5 tk5 t5 k5 _ n5
          obtain ⟨F5, N5⟩ := fr_hide F' N' (hide_keep k5) (n5 L (.head _) _ F'.ns)
          refine ⟨h5, tk5, _, rfl, F5, N5, off, ⟨_, .head _, rfl, _, rfl⟩, rfl, t5, ?_⟩
          rw [show madeS i = Str.ofString "refused" from if_neg hi3]
      · intro zs hl hr
        intro D h tk F' N' o1
        refine ⟨rfl, _, _, D, zs, rfl, F', fun p hp => N' p ?_, fun q hq => (off1_mem o1 q (.tail _ hq)), dats_made hl hr⟩
        rcases List.mem_cons.mp hp with rfl | hp
        · exact .head _
        · exact .tail _ (.tail _ hp)
    rintro s' ⟨h13, tk13, To, ts, rfl, F13, N13, nTo, hts⟩
    clear F12 N12
    refine cut (fun s' => ∃ h' tk Du us n, s' = { s with heap := h', toks := tk } ∧ Fr s.heap L h' (fun y => if y = Str.ofString "due" then some (.ref Du) else if y = Str.ofString "told" then some (.ref To) else pmap P Ls Rw Nm ax text tt om y) ∧ News s.heap L h' ((Du, W.listOf us.toArray n) :: (To, LCg.lst ts) :: (P, W.listOf ps2.toArray (c + 1 + 1)) :: oth4) ∧ (∀ q ∈ (To, LCg.lst ts) :: (P, W.listOf ps2.toArray (c + 1 + 1)) :: oth4, @Ne Nat q.1 Du) ∧ DatAll [] us [dsS "made", dsS "made", dsS "made", dsS "refused", dsS "refused"]) ?_ ?_
    · k_steps
      rename Fr _ _ _ _ => F9
      rename News _ _ _ _ => N9
      have l9 := (by assumption : @LT.lt Nat _ To _ ∧ @LT.lt Nat _ P _ ∧ AllLt _ oth4)
      refine ⟨rfl, _, _, _, [_, _, _, _, _], 0, rfl, F9, N9, fun q hq => ?_, .cons (.str _ _) (.cons (.str _ _) (.cons (.str _ _) (.cons (.str _ _) (.cons (.str _ _) .nil))))⟩
      rcases List.mem_cons.mp hq with rfl | hq
      · exact Nat.ne_of_lt l9.1
      rcases List.mem_cons.mp hq with rfl | hq
      · exact Nat.ne_of_lt l9.2.1
      · exact Nat.ne_of_lt (allLt_mem l9.2.2 q hq)
    rintro s' ⟨h14, tk14, Du, us, nU, rfl, F14, N14, nDu, hus⟩
    clear F13 N13
    have hpz4 : ps2.toArray.size ≤ sizeLine := by rw [List.size_toArray, sizeLine_eq]; omega
    have hto : LCg.lst ts = W.listOf ts.toArray ts.length := rfl
    rw [hto] at N14 nDu
    clear hto
    generalize hall14 : (Du, W.listOf us.toArray nU) :: (To, W.listOf ts.toArray ts.length) :: (P, W.listOf ps2.toArray (c + 1 + 1)) :: oth4 = all14 at *
    refine cut (fun s' => ∃ h' tk x d oD, s' = { s with heap := h', toks := tk } ∧ Fr s.heap L h' (fun y => if y = Str.ofString "plain" then some (.ref x) else if y = Str.ofString "due" then some (.ref Du) else if y = Str.ofString "told" then some (.ref To) else pmap P Ls Rw Nm ax text tt om y) ∧ News s.heap L h' ((x, instObj 273 d) :: (d, oD) :: all14) ∧ @Ne Nat d x ∧ (∀ q ∈ all14, @Ne Nat q.1 x ∧ @Ne Nat q.1 d) ∧ IsRd w.params (Str.ofString "raise") (Str.ofString "") h' d) ?_ ?_
    · have N14' : News s.heap L h14 ((P, W.listOf ps2.toArray (c + 1 + 1)) :: all14) := fun p hp => by
        rcases List.mem_cons.mp hp with rfl | hp
        · exact N14 _ (hall14 ▸ .tail _ (.tail _ (.head _)))
        · exact N14 p hp
      clear hall14 N14
      k_steps
      refine len_list (l := P) (items := ps2.toArray) ⟨_, (N14' _ (.head _)).1, rfl, _, rfl⟩ (by rw [List.size_toArray]; omega) ?_
      dsimp only
      k_steps
      · refine inst_reader0 (g0 := h14) (fun _ _ e => e) (X.keeps F14.keep) (T.keeps F14.keep) rfl ?_ ?_ ?_
        · show dp + 1 < 880; omega
        · show un + 3 < 8980; omega
        intro h15 tk15 x d k15 nx nd ex dx ⟨k1, t1, k2, k3, t3, ed⟩
        have N15 := news_reader F14 (fun p hp => N14' p (.tail _ hp)) k15 nx nd ex ed
        have F15 := F14.keeps k15
        replace N15 : News s.heap L h15 _ ∧ _ := N15
        obtain ⟨N15, ne15⟩ := N15
        clear F14 N14'
        k_steps
        rename Fr _ _ _ _ => F9
        rename News _ _ _ _ => N9
        exact ⟨rfl, _, _, x, d, _, rfl, F9, N9, Nat.ne_of_lt dx, ne15, _, _, _, _, _, (N9 _ (.tail _ (.head _))).1⟩
      · refine inst_reader (g0 := h14) (fun _ _ e => e) (X.keeps F14.keep) (T.keeps F14.keep) rfl ?_ ?_ (.inl rfl) ?_
        · show dp + 1 < 880; omega
        · show un + 3 < 8980; omega
        intro h15 tk15 x d k15 nx nd ex dx ⟨k1, t1, k2, k3, t3, ed⟩
        have N15 := news_reader F14 (fun p hp => N14' p (.tail _ hp)) k15 nx nd ex ed
        have F15 := F14.keeps k15
        replace N15 : News s.heap L h15 _ ∧ _ := N15
        obtain ⟨N15, ne15⟩ := N15
        clear F14 N14'
        k_steps
        rename Fr _ _ _ _ => F9
        rename News _ _ _ _ => N9
        exact ⟨rfl, _, _, x, d, _, rfl, F9, N9, Nat.ne_of_lt dx, ne15, _, _, _, _, _, (N9 _ (.tail _ (.head _))).1⟩
    rintro s' ⟨h15, tk15, R1, D1, oD1, rfl, F15, N15, dx1, ne15, rd1⟩
    -- HERE
    have pw14 : PwN 2 all14 := by
      rw [← hall14]
      exact ⟨nDu, nTo, trivial⟩
    have pw15 : PwN 4 ((R1, instObj 273 D1) :: (D1, oD1) :: all14) := ⟨fresh1_cons dx1 fun q hq => (ne15 q hq).1, fun q hq => (ne15 q hq).2, pw14⟩
    have ro1 := RdO.of rd1 (N15 _ (.tail _ (.head _))).1
    clear N14 nDu nTo ne15 dx1 rd1
    refine cut (fun s' => ∃ h' tk Rs a1 a2 a3 R2 D2 R3 D3 oD2 oD3 w1 w2 w3, s' = { s with heap := h', toks := tk } ∧ Fr s.heap L h' (fun y => if y = Str.ofString "readers" then some (.ref Rs) else if y = Str.ofString "plain" then some (.ref R1) else if y = Str.ofString "due" then some (.ref Du) else if y = Str.ofString "told" then some (.ref To) else pmap P Ls Rw Nm ax text tt om y) ∧
        News s.heap L h' ((Rs, W.listOf #[.ref a1, .ref a2, .ref a3] 0) :: (a3, W.listOf #[.ref R3, .str (Str.ofString "ignore") w3] 0) :: (R3, instObj 273 D3) :: (D3, oD3) :: (a2, W.listOf #[.ref R2, .str (Str.ofString "yield") w2] 0) :: (R2, instObj 273 D2) :: (D2, oD2) :: (a1, W.listOf #[.ref R1, .str (Str.ofString "raise") w1] 0) :: (R1, instObj 273 D1) :: (D1, oD1) :: all14) ∧
        PwN 12 ((Rs, W.listOf #[.ref a1, .ref a2, .ref a3] 0) :: (a3, W.listOf #[.ref R3, .str (Str.ofString "ignore") w3] 0) :: (R3, instObj 273 D3) :: (D3, oD3) :: (a2, W.listOf #[.ref R2, .str (Str.ofString "yield") w2] 0) :: (R2, instObj 273 D2) :: (D2, oD2) :: (a1, W.listOf #[.ref R1, .str (Str.ofString "raise") w1] 0) :: (R1, instObj 273 D1) :: (D1, oD1) :: all14) ∧
        RdO w.params (Str.ofString "yield") (Str.ofString "") oD2 ∧ RdO w.params (Str.ofString "ignore") (Str.ofString "") oD3) ?_ ?_
    · clear hall14 pw14
      generalize hall15 : (R1, instObj 273 D1) :: (D1, oD1) :: all14 = all15 at *
      k_steps
      rename Fr _ _ _ _ => F9
      rename News _ _ _ _ => N9
      have f1 : Fresh1 _ all15 := fun q hq => Nat.ne_of_lt ((by assumption : ∀ p ∈ all15, @LT.lt Nat _ p.1 _) q hq)
      refine inst_reader (g0 := _) (fun _ _ e => e) (X.keeps F9.keep) (T.keeps F9.keep) rfl ?_ ?_ (.inr (.inl rfl)) ?_
      · show dp + 1 < 880; omega
      · show un + 3 < 8980; omega
      intro h16 tk16 R2 D2 k16 nx nd ex dx ed
      obtain ⟨oD2, N16, pw16, ro2⟩ := reader_step (n := 5) F9 N9 ⟨f1, pw15⟩ k16 nx nd ex dx ed
      have F16 := F9.keeps k16
      replace N16 : News s.heap L h16 _ := N16
      clear F9 N9 f1 k16 nx nd ex dx ed
      generalize hall16 : (R2, instObj 273 D2) :: (D2, _) :: _ :: all15 = all16 at *
      k_steps
      rename Fr _ _ _ _ => F9
      rename News _ _ _ _ => N9
      have f1 : Fresh1 _ all16 := fun q hq => Nat.ne_of_lt ((by assumption : ∀ p ∈ all16, @LT.lt Nat _ p.1 _) q hq)
      refine inst_reader (g0 := _) (fun _ _ e => e) (X.keeps F9.keep) (T.keeps F9.keep) rfl ?_ ?_ (.inr (.inr rfl)) ?_
      · show dp + 1 < 880; omega
      · show un + 3 < 8980; omega
      intro h17 tk17 R3 D3 k17 nx nd ex dx ed
      obtain ⟨oD3, N17, pw17, ro3⟩ := reader_step (n := 8) F9 N9 ⟨f1, pw16⟩ k17 nx nd ex dx ed
      have F17 := F9.keeps k17
      replace N17 : News s.heap L h17 _ := N17
      clear F9 N9 f1 k17 nx nd ex dx ed
      generalize hall17 : (R3, instObj 273 D3) :: (D3, _) :: _ :: all16 = all17 at *
      k_steps
      rename Fr _ _ _ _ => F9
      rename News _ _ _ _ => N9
      have f3 : Fresh1 _ all17 := fun q hq => Nat.ne_of_lt ((by assumption : ∀ p ∈ all17, @LT.lt Nat _ p.1 _) q hq)
      have f4 := (by assumption : @LT.lt Nat _ _ _ ∧ AllLt _ all17)
      subst hall17 hall16 hall15
      exact ⟨rfl, _, _, _, _, _, _, R2, D2, R3, D3, oD2, oD3, _, _, _, rfl, F9, N9, ⟨fresh1_cons (Nat.ne_of_lt f4.1) (fresh1_lt f4.2), f3, pw17⟩, ro2, ro3⟩
    rintro s' ⟨h18, tk18, Rs, aa1, aa2, aa3, R2, D2, R3, D3, oD2, oD3, w1, w2, w3, rfl, F18, N18, pw18, ro2, ro3⟩
    clear F15 N15 pw15 pw14
    -- HERE
    refine cut (fun s' => ∃ h' tk tl, s' = { s with heap := h', toks := tk } ∧ Fr s.heap L h' (lmap Ls To Du Rs (fun y => if y = Str.ofString "plain" then some (.ref R1) else pmap P Ls Rw Nm ax text tt om y) 0 tl none none none none none none) ∧ News s.heap L h' ((Rs, W.listOf #[.ref aa1, .ref aa2, .ref aa3] 0) :: (aa3, W.listOf #[.ref R3, .str (Str.ofString "ignore") w3] 0) :: (R3, instObj 273 D3) :: (D3, oD3) :: (aa2, W.listOf #[.ref R2, .str (Str.ofString "yield") w2] 0) :: (R2, instObj 273 D2) :: (D2, oD2) :: (aa1, W.listOf #[.ref R1, .str (Str.ofString "raise") w1] 0) :: (R1, instObj 273 D1) :: (D1, oD1) :: all14)) ?_ ?_
    · generalize hall18 : (Rs, W.listOf #[.ref aa1, .ref aa2, .ref aa3] 0) :: (aa3, W.listOf #[.ref R3, .str (Str.ofString "ignore") w3] 0) :: (R3, instObj 273 D3) :: (D3, oD3) :: (aa2, W.listOf #[.ref R2, .str (Str.ofString "yield") w2] 0) :: (R2, instObj 273 D2) :: (D2, oD2) :: (aa1, W.listOf #[.ref R1, .str (Str.ofString "raise") w1] 0) :: (R1, instObj 273 D1) :: (D1, oD1) :: all14 = all18 at *
      k_steps
      rename Fr _ _ _ _ => F9
      rename News _ _ _ _ => N9
      exact ⟨rfl, _, _, _, rfl, fr_congr F9 lmap_start, N9⟩
    rintro s' ⟨h19, tk19, tl19, rfl, F19, N19⟩
    clear F18 N18
    refine wpAny_execs_cons ?_
    refine for_list ?_
    iterate 1 walk1
    -- HERE
    subst hall14
    obtain ⟨E19, M⟩ := start_ent F19 N19 pw18
    have LS19 : LSt w.params (pick3 D1 D2 D3) Du To [] (fun _ => Str.empty) [dsS "made", dsS "made", dsS "made", dsS "refused", dsS "refused"] [dsS "made", dsS "made", dsS "made", dsS "refused", dsS "refused"] h19 := ⟨fun k hk => by
      rcases lt3 hk with rfl | rfl | rfl
      · exact ro1.at (N19 (D1, oD1) (List.mem_of_getElem? (i := 9) rfl)).1
      · exact ro2.at (N19 (D2, oD2) (List.mem_of_getElem? (i := 6) rfl)).1
      · exact ro3.at (N19 (D3, oD3) (List.mem_of_getElem? (i := 3) rfl)).1, ⟨us, nU, (N19 (Du, _) (List.mem_of_getElem? (i := 10) rfl)).1, hus⟩, ⟨ts, _, (N19 (To, W.listOf ts.toArray ts.length) (List.mem_of_getElem? (i := 11) rfl)).1, hts⟩⟩
    have hak : ∀ k, k < 3 → (pick3 aa1 aa2 aa3 k, W.listOf #[.ref (pick3 R1 R2 R3 k), .str (wayN k) (pick3 w1 w2 w3 k)] 0) ∈ ((Rs, W.listOf #[.ref aa1, .ref aa2, .ref aa3] 0) :: (aa3, W.listOf #[.ref R3, .str (Str.ofString "ignore") w3] 0) :: (R3, instObj 273 D3) :: (aa2, W.listOf #[.ref R2, .str (Str.ofString "yield") w2] 0) :: (R2, instObj 273 D2) :: (aa1, W.listOf #[.ref R1, .str (Str.ofString "raise") w1] 0) :: (R1, instObj 273 D1) :: (P, W.listOf ps2.toArray (c + 1 + 1)) :: oth4 : List (Addr × Obj)) := fun k hk => by
      rcases lt3 hk with rfl | rfl | rfl
      · exact .tail _ (.tail _ (.tail _ (.tail _ (.tail _ (.head _)))))
      · exact .tail _ (.tail _ (.tail _ (.head _)))
      · exact .tail _ (.head _)
    have hRk : ∀ k, k < 3 → (pick3 R1 R2 R3 k, instObj 273 (pick3 D1 D2 D3 k)) ∈ ((Rs, W.listOf #[.ref aa1, .ref aa2, .ref aa3] 0) :: (aa3, W.listOf #[.ref R3, .str (Str.ofString "ignore") w3] 0) :: (R3, instObj 273 D3) :: (aa2, W.listOf #[.ref R2, .str (Str.ofString "yield") w2] 0) :: (R2, instObj 273 D2) :: (aa1, W.listOf #[.ref R1, .str (Str.ofString "raise") w1] 0) :: (R1, instObj 273 D1) :: (P, W.listOf ps2.toArray (c + 1 + 1)) :: oth4 : List (Addr × Obj)) := fun k hk => by
      rcases lt3 hk with rfl | rfl | rfl
      · exact .tail _ (.tail _ (.tail _ (.tail _ (.tail _ (.tail _ (.head _))))))
      · exact .tail _ (.tail _ (.tail _ (.tail _ (.head _))))
      · exact .tail _ (.tail _ (.head _))
    have hmRs : (Rs, W.listOf #[.ref (pick3 aa1 aa2 aa3 0), .ref (pick3 aa1 aa2 aa3 1), .ref (pick3 aa1 aa2 aa3 2)] 0) ∈ ((Rs, W.listOf #[.ref aa1, .ref aa2, .ref aa3] 0) :: (aa3, W.listOf #[.ref R3, .str (Str.ofString "ignore") w3] 0) :: (R3, instObj 273 D3) :: (aa2, W.listOf #[.ref R2, .str (Str.ofString "yield") w2] 0) :: (R2, instObj 273 D2) :: (aa1, W.listOf #[.ref R1, .str (Str.ofString "raise") w1] 0) :: (R1, instObj 273 D1) :: (P, W.listOf ps2.toArray (c + 1 + 1)) :: oth4 : List (Addr × Obj)) := .head _
    have hmP : (P, W.listOf ps2.toArray (c + 1 + 1)) ∈ ((Rs, W.listOf #[.ref aa1, .ref aa2, .ref aa3] 0) :: (aa3, W.listOf #[.ref R3, .str (Str.ofString "ignore") w3] 0) :: (R3, instObj 273 D3) :: (aa2, W.listOf #[.ref R2, .str (Str.ofString "yield") w2] 0) :: (R2, instObj 273 D2) :: (aa1, W.listOf #[.ref R1, .str (Str.ofString "raise") w1] 0) :: (R1, instObj 273 D1) :: (P, W.listOf ps2.toArray (c + 1 + 1)) :: oth4 : List (Addr × Obj)) := .tail _ (.tail _ (.tail _ (.tail _ (.tail _ (.tail _ (.tail _ (.head _)))))))
    have hot : ∀ q ∈ oth4, q ∈ ((Rs, W.listOf #[.ref aa1, .ref aa2, .ref aa3] 0) :: (aa3, W.listOf #[.ref R3, .str (Str.ofString "ignore") w3] 0) :: (R3, instObj 273 D3) :: (aa2, W.listOf #[.ref R2, .str (Str.ofString "yield") w2] 0) :: (R2, instObj 273 D2) :: (aa1, W.listOf #[.ref R1, .str (Str.ofString "raise") w1] 0) :: (R1, instObj 273 D1) :: (P, W.listOf ps2.toArray (c + 1 + 1)) :: oth4 : List (Addr × Obj)) := fun q hq => .tail _ (.tail _ (.tail _ (.tail _ (.tail _ (.tail _ (.tail _ (.tail _ hq)))))))
    replace hP2 := hP2.mono fun q hq => hot q (hnlP q hq)
    have hmLs := hot _ (hnlL _ (.head _))
    replace hls := hls.mono fun q hq => hot q (hnlL q (.tail _ hq))
    clear hot hnlP hnlL hus hts ro1 ro2 ro3 pw18 F14 N19 hot4
    generalize ((Rs, W.listOf #[.ref aa1, .ref aa2, .ref aa3] 0) :: (aa3, W.listOf #[.ref R3, .str (Str.ofString "ignore") w3] 0) :: (R3, instObj 273 D3) :: (aa2, W.listOf #[.ref R2, .str (Str.ofString "yield") w2] 0) :: (R2, instObj 273 D2) :: (aa1, W.listOf #[.ref R1, .str (Str.ofString "raise") w1] 0) :: (R1, instObj 273 D1) :: (P, W.listOf ps2.toArray (c + 1 + 1)) :: oth4 : List (Addr × Obj)) = stat0 at *
    generalize [L, Du, To, D1, D2, D3] = mv at *
    generalize pick3 D1 D2 D3 = Dk at *
    generalize pick3 R1 R2 R3 = Rk at *
    generalize pick3 aa1 aa2 aa3 = ak at *
    generalize pick3 w1 w2 w3 = wk at *
    generalize (fun y => if y = Str.ofString "plain" then some (Value.ref R1) else pmap P Ls Rw Nm ax text tt om y) = m0 at *
    -- HERE
    have hab := F19.above
    have hF := txN_free
    have hpl0 : Plain ns pcs2 0 0 Str.empty := plain_start (hns ▸ numsL_ne ks) htx hcat2
    refine ⟨P, ps2.toArray, InvO w.params s s.heap L Ls To Du Rs P m0 Dk mv stat0 ps2.toArray.size ns pcs2, rfl, rfl, ⟨_, E19.on _ hmP, rfl, _, rfl⟩, ?init, ?hI, ?turn, ?fin⟩
    case init =>
      intro h' k' hit
      have nI : h19.get? h19.objs.size = none := Heap.get?_none_of_le (Nat.le_refl _)
      have nIm : h19.objs.size ∉ mv := fun q => by
        obtain ⟨o, e⟩ := (E19.alive _ q).1
        rw [nI] at e; cases e
      obtain ⟨oI, eI, _⟩ := id hit
      have E20 := (E19.step (nl := []) (fun b o _ e => k' b o e) (fun b hb => (E19.alive b hb).1.imp fun o e => k' b o e) (fun b o e => k' b o (E19.st b o e)) fun p hp => absurd hp List.not_mem_nil)
      exact ⟨h', s.gens, tk19, 0, tl19, _, _, _, _, _, _, stat0, Str.empty, _, rfl, hbare, F19.ns.keeps k', E20.more eI (none_of_stays E19.st nI) (fun p hp q => by
        have := E19.on p hp
        rw [show p.1 = _ from q, nI] at this; cases this), fun _ hp => hp, LS19.keep (fun k _ o e => k' _ o e) (fun o e => k' _ o e) (fun o e => k' _ o e) (fun p hp => absurd hp List.not_mem_nil), by unfold DatOk; decide +kernel, by decide, hit, Nat.zero_le _, nIm, hpl0⟩
    case hI =>
      rintro I i _ ⟨h', gens', tk', pl, tl, opi, ole, oon, oo, ore, owa, stat, buf, dat, rfl, hb, hns, hE, hsub, hL, hok, hlen, hit, hi, nI, hpn⟩
      exact ⟨hit, ⟨_, hE.on _ (hsub _ hmP), rfl, _, rfl⟩, hi⟩
    case fin =>
      rintro I _ h3 ⟨h', gens', tk', pl, tl, opi, ole, oon, oo, ore, owa, stat, buf, dat, rfl, hb, hns, hE, hsub, hL, hok, hlen, hit, hi, nI, hpn⟩ hx
      have hLm : L ∈ mv := (M.all L).mpr (.inl rfl)
      have nLI : @Ne Nat L I := fun q => nI (q ▸ hLm)
      have hDum : Du ∈ mv := (M.all Du).mpr (.inr (.inl rfl))
      have hTom : To ∈ mv := (M.all To).mpr (.inr (.inr (.inl rfl)))
      obtain ⟨us9, nu9, e1, d1⟩ := hL.due
      obtain ⟨ts9, nt9, e2, d2⟩ := hL.told
      have F3 : Fr s.heap L h3 (lmap Ls To Du Rs m0 pl tl opi ole oon oo ore owa) := ⟨hns.at' fun o e => hx L o nLI e, fun b o e => hx b o (fun q => by have := (hE.alive I (.head _)).2; rw [← q, e] at this; cases this) (hE.st b o e), F19.above⟩
      have N3 : News s.heap L h3 ((Du, W.listOf us9.toArray nu9) :: (To, W.listOf ts9.toArray nt9) :: stat) := fun p hp => by
        rcases List.mem_cons.mp hp with rfl | hp
        · exact ⟨hx Du _ (fun q => nI (q ▸ hDum)) e1, Ne.symm M.LDu, (hE.alive Du (.tail _ hDum)).2⟩
        rcases List.mem_cons.mp hp with rfl | hp
        · exact ⟨hx To _ (fun q => nI (q ▸ hTom)) e2, Ne.symm M.LTo, (hE.alive To (.tail _ hTom)).2⟩
        · exact ⟨hx p.1 _ (fun q => hE.off p hp (q ▸ .head _)) (hE.on p hp), fun q => hE.off p hp (q ▸ .tail _ hLm), hE.new p hp⟩
      clear F19 LS19 E19
      dsimp only
      refine wpAny_execs_cons ?_
      iterate 4 walk1
      refine kqd_eq N3 (.tail _ (.head _)) rfl rfl d2 (fun p hp => .tail _ (.tail _ hp)) (.head _) rfl rfl d1 (fun p hp => .tail _ (.tail _ hp)) hok hok ?_ ?_
      · simp only [units_deeper]
        unfold cLine
        omega
      dsimp only
      simp only [decide_true]
      exact ⟨rfl, _, _, _, rfl, F3.keep, hb⟩
    case turn =>
      rintro I i _ x hx ⟨h', gens', tk', pl, tl, opi, ole, oon, oo, ore, owa, stat, buf, dat, rfl, hb, hns, hE, hsub, hL, hok, hlen, hit, hi, nI, hpn⟩ h20 hit20 hs20
      have hLm : L ∈ mv := (M.all L).mpr (.inl rfl)
      have nLI : @Ne Nat L I := fun q => nI (q ▸ hLm)
      have hDum : Du ∈ mv := (M.all Du).mpr (.inr (.inl rfl))
      have hTom : To ∈ mv := (M.all To).mpr (.inr (.inr (.inl rfl)))
      have hDkm : ∀ k, k < 3 → Dk k ∈ mv := fun k hk => (M.all _).mpr (.inr (.inr (.inr ⟨k, hk, rfl⟩)))
      have gIm := (hE.alive I (.head _)).2
      obtain ⟨oI, hI20, hI20'⟩ := id hit20
      have hx20 := same_ext hs20
      have E20 : Ent s.heap (I :: mv) stat h20 := (hE.step (nl := []) (fun b o n e => hx20 b o (fun q => n (q ▸ .head _)) e) (fun b hb => by
        by_cases q : b = I
        · exact ⟨_, q ▸ hI20⟩
        · exact (hE.alive b hb).1.imp fun o e => hx20 b o q e) (fun b o e => hx20 b o (fun q => by rw [q, gIm] at e; cases e) (hE.st b o e)) fun p hp => absurd hp List.not_mem_nil)
      have ns20 : h20.Ns L (lmap Ls To Du Rs m0 pl tl opi ole oon oo ore owa) := hns.at' fun o e => hx20 L o nLI e
      have L20 := hL.keep (h' := h20) (fun k hk o e => hx20 _ o (fun q => nI (q ▸ hDkm k hk)) e) (fun o e => hx20 _ o (fun q => nI (q ▸ hDum)) e) (fun o e => hx20 _ o (fun q => nI (q ▸ hTom)) e) (fun _ hp => hp)
      obtain ⟨d, hd, hin⟩ := datAll_at hP2 (by simpa using hx)
      rw [List.getElem?_map] at hd
      obtain ⟨⟨piece, lean⟩, hpc, rfl⟩ := Option.map_eq_some_iff.mp hd
      obtain ⟨xp, vsp, np, rfl, hxp, tp, rfl⟩ : ∃ xp vsp np, x = .ref xp ∧ (xp, W.listOf vsp np) ∈ stat0 ∧ ∃ tp, vsp = #[.str piece tp, .bool lean] := by
        unfold pcD at hin
        cases hin with
        | list hm ha =>
          cases ha with
          | cons h1 h2 =>
            cases h1
            cases h2 with
            | cons h3 h4 =>
              cases h3
              cases h4
              exact ⟨_, _, _, rfl, hm, _, rfl⟩
      clear hd hin hE hns hL hs20 hit E19 LS19 F19
      have F20 : Fr s.heap L h20 (lmap Ls To Du Rs m0 pl tl opi ole oon oo ore owa) := ⟨ns20, E20.st, hab⟩
      have N20 : News s.heap L h20 ((xp, W.listOf #[.str piece tp, .bool lean] np) :: restOf s.heap h20 [L]) := fun p hp => by
        rcases List.mem_cons.mp hp with rfl | hp
        · exact ⟨E20.on _ (hsub _ hxp), fun q => E20.off _ (hsub _ hxp) (.tail _ (q ▸ hLm)), E20.new _ (hsub _ hxp)⟩
        · exact rest_news (.head _) p hp
      generalize hr20 : restOf s.heap h20 [L] = r20 at N20
      dsimp only
      have C20 : Cr w.params s.heap [(I, oI)] Dk Du To mv stat (fun _ => buf) dat dat h20 := ⟨E20, L20, fun p hp => by rw [List.mem_singleton.mp hp]; exact ⟨hI20, nI⟩⟩
      have kst20 := E20.st
      clear E20 L20
      refine cutA (fun s3 => ∃ h9 tk9, s3 = { s with heap := h9, gens := gens', toks := tk9 } ∧ Fr s.heap L h9 (lmap Ls To Du Rs m0 pl tl (some (.str piece tp)) (some (.bool lean)) oon oo ore owa) ∧ KeepBut [L] h20 h9) ?_ ?_
      · clear C20 hpn hpc hx
        k_steps
        rename Fr _ _ _ _ => F9
        rename News _ _ _ _ => N9
        exact ⟨_, _, rfl, fr_congr F9 lmap_pair, keepBut_of F9 N9 (fun q hq => .tail _ (hr20 ▸ hq)) kst20⟩
      rintro _ s3 ⟨h21, tk21, rfl, F21, kb21⟩
      have C21 := C20.stay0 M F21 kb21
      clear N20 hr20 kb21 C20 F20 ns20
      refine turn_next ?_
      obtain ⟨pn, k, bf, rfl, hpk, hcnt, hspl, hpn', hbl, hpil⟩ := plain_step hF hnl hpn hpc
      have hcl : (piece.length : Int) ≤ 1100 := by omega
      have hpl : (0 : Int) ≤ (pn : Int) := by omega
      have hpc1 : 0 ≤ (pn : Int) + Txt.count piece (Str.ofString "\n") := by rw [show Txt.count piece (Str.ofString "\n") = (k : Int) from hcnt]; omega
      clear hpn
      refine cut (fun s' => ∃ h' tk O, s' = { s with heap := h', gens := gens', toks := tk } ∧ Fr s.heap L h' (lmap Ls To Du Rs m0 (pn : Int) tl (some (.str piece tp)) (some (.bool lean)) (some (.ref O)) oo ore owa) ∧ KeepBut [L] h21 h' ∧ h'.get? O = some (W.listOf ([] : List Value).toArray 0) ∧ h21.get? O = none) ?_ ?_
      · have sp21 : ∀ q ∈ restOf s.heap h21 [L], q ∈ restOf s.heap h21 [L] := fun q hq => hq
        have N21 : News s.heap L h21 (restOf s.heap h21 [L]) := rest_news (.head _)
        generalize hr21 : restOf s.heap h21 [L] = r21 at N21
        have kst21 := C21.ent.st
        have gL := none_above hab
        clear C21 hpc hx sp21
        k_steps
        rename Fr _ _ _ _ => F9
        rename News _ _ _ _ => N9
        have l9 := (by assumption : ∀ p ∈ r21, @LT.lt Nat _ p.1 _)
        have NO := N9 _ (.head _)
        refine ⟨rfl, _, _, _, rfl, fr_congr F9 lmap_ones, keepBut_of F9 N9 (fun q hq => .tail _ (hr21 ▸ hq)) kst21, NO.1, ?_⟩
        exact new_none1 hr21 NO.2.1 NO.2.2 l9
      rintro s' ⟨h22, tk22, O, rfl, F22, kb22, eO, nO⟩
      have C22 := C21.stay0 M F22 kb22
      have gO : s.heap.get? O = none := none_of_stays C21.ent.st nO
      have nOL : @Ne Nat O L := fun q => by
        obtain ⟨o, _, _, e, _⟩ := F21.ns
        rw [show O = L from q, e] at nO; cases nO
      have nOs : ∀ p ∈ stat, @Ne Nat p.1 O := fun p hp q => by
        have := C21.ent.on p hp
        rw [show p.1 = O from q, nO] at this; cases this
      clear F21
      refine cut (fun s' => ∃ h' tk oo' os nlO c, s' = { s with heap := h', gens := gens', toks := tk } ∧ Fr s.heap L h' (lmap Ls To Du Rs m0 (pn : Int) tl (some (.str piece tp)) (some (.bool lean)) (some (.ref O)) oo' ore owa) ∧ KeepBut [L, O] h22 h' ∧ h'.get? O = some (W.listOf os.toArray c) ∧ (∀ p ∈ nlO, h'.get? p.1 = some p.2 ∧ h22.get? p.1 = none) ∧ DatAll (nlO ++ stat0) os ((((ns.drop pn).take k).map fun n => leanO lean (oN n)).map oneD)) ?_ ?_
      · refine for_list ?_
        have N22 : News s.heap L h22 ((Ls, LCg.lst ls) :: (O, W.listOf ([] : List Value).toArray 0) :: restOf s.heap h22 [L, O]) := fun p hp => by
          rcases List.mem_cons.mp hp with rfl | hp
          · exact ⟨C22.ent.on _ (hsub _ hmLs), fun q => C22.ent.off _ (hsub _ hmLs) (List.mem_append_right _ (q ▸ M.memL)), C22.ent.new _ (hsub _ hmLs)⟩
          rcases List.mem_cons.mp hp with rfl | hp
          · exact ⟨eO, nOL, gO⟩
          · exact rest_news (.head _) p hp
        have hrO : ∀ p ∈ restOf s.heap h22 [L, O], @Ne Nat p.1 O := fun p hp q => rest_ne p hp (by rw [show p.1 = O from q]; simp)
        have nLsO : @Ne Nat Ls O := nOs _ (hsub _ hmLs)
        have kst22 := C22.ent.st
        have on22 : ∀ p ∈ stat0, (∃ o, h22.get? p.1 = some o) ∧ p.1 ≠ L ∧ p.1 ≠ O := fun p hp => ⟨⟨_, C22.ent.on _ (hsub _ hp)⟩, fun q => C22.ent.off _ (hsub _ hp) (List.mem_append_right _ (q ▸ M.memL)), nOs p (hsub _ hp)⟩
        have st22 : ∀ p ∈ stat0, p ∈ restOf s.heap h22 [L, O] := fun p hp => mem_rest.mpr ⟨by simp [(on22 p hp).2.1, (on22 p hp).2.2], C22.ent.new _ (hsub _ hp), C22.ent.on _ (hsub _ hp)⟩
        generalize hr22 : restOf s.heap h22 [L, O] = r22 at N22 hrO st22
        have hLs22 : h22.IsList Ls ls.toArray := ⟨_, (N22 _ (.head _)).1, rfl, _, rfl⟩
        have hlsz : ls.toArray.size = ns.length := by rw [List.size_toArray, hls.length, List.length_map]
        clear C21 C22 on22
        refine cutV (fun v s' => ∃ Z h' tk, v = .ref Z ∧ s' = { s with heap := h', gens := gens', toks := tk } ∧ Fr s.heap L h' (lmap Ls To Du Rs m0 (pn : Int) tl (some (.str piece tp)) (some (.bool lean)) (some (.ref O)) oo ore owa) ∧ News s.heap L h' ((Z, ({ cls := .type "list", data := .seq ((ls.drop pn).take k).toArray } : Obj)) :: (Ls, LCg.lst ls) :: (O, W.listOf ([] : List Value).toArray 0) :: r22) ∧ @LT.lt Nat _ O Z) ?_ ?_
        · have hsl : slicePick ls.toArray (some (pn : Int)) (some ((pn : Int) + Txt.count piece (Str.ofString "\n"))) none = ((ls.drop pn).take k).toArray := by
            rw [show Txt.count piece (Str.ofString "\n") = (k : Int) from hcnt, show (pn : Int) + (k : Int) = ((pn + k : Nat) : Int) by push_cast; rfl, slicePick_run _ _ _ (by omega) (by omega)]
            simp
          have ltO : @LT.lt Nat _ O h22.objs.size := Heap.lt_size (N22 _ (.tail _ (.head _))).1
          k_steps
          rename Fr _ _ _ _ => F9
          rename News _ _ _ _ => N9
          rw [hsl] at N9
          exact ⟨_, _, _, rfl, rfl, F9, N9, Nat.lt_succ_of_lt ltO⟩
        rintro _ s' ⟨Z, h23, tk23, rfl, rfl, F23, N23, ltZ⟩
        have hzs := datAll_take (n := k) (datAll_drop (n := pn) hls)
        rw [← List.map_drop, ← List.map_take] at hzs
        have hzl : ((ls.drop pn).take k).length = ((ns.drop pn).take k).length := by rw [hzs.length, List.length_map]
        have hml : ((ns.drop pn).take k).length ≤ 7 := by rw [List.length_take, List.length_drop]; omega
        generalize (ls.drop pn).take k = zs at *
        generalize (ns.drop pn).take k = ms at *
        have eZ := (N23 _ (.head _)).1
        have N24 : News s.heap L h23 ((O, W.listOf ([] : List Value).toArray 0) :: (Z, ({ cls := .type "list", data := .seq zs.toArray } : Obj)) :: (Ls, LCg.lst ls) :: r22) := fun p hp => N23 p (mem_rot hp)
        have hoO : ∀ p ∈ (Z, ({ cls := .type "list", data := .seq zs.toArray } : Obj)) :: (Ls, LCg.lst ls) :: r22, @Ne Nat p.1 O := fun p hp => by
          rcases List.mem_cons.mp hp with rfl | hp
          · exact Nat.ne_of_gt ltZ
          rcases List.mem_cons.mp hp with rfl | hp
          · exact nLsO
          · exact hrO p hp
        have hZm : (Z, ({ cls := .type "list", data := .seq zs.toArray } : Obj)) ∈ (Z, ({ cls := .type "list", data := .seq zs.toArray } : Obj)) :: (Ls, LCg.lst ls) :: r22 := .head _
        have hrm : ∀ p ∈ r22, p ∈ (Z, ({ cls := .type "list", data := .seq zs.toArray } : Obj)) :: (Ls, LCg.lst ls) :: r22 := fun p hp => .tail _ (.tail _ hp)
        clear N23 N22
        generalize (Z, ({ cls := .type "list", data := .seq zs.toArray } : Obj)) :: (Ls, LCg.lst ls) :: r22 = rest at N24 hoO hZm hrm
        refine ⟨Z, zs.toArray, fun J j s' => ∃ h' tk oo' os nlO c oJ, s' = { s with heap := h', gens := gens', toks := tk } ∧ Fr s.heap L h' (lmap Ls To Du Rs m0 (pn : Int) tl (some (.str piece tp)) (some (.bool lean)) (some (.ref O)) oo' ore owa) ∧ News s.heap L h' ((J, oJ) :: (O, W.listOf os.toArray c) :: (nlO ++ rest)) ∧ @Ne Nat J O ∧ (∀ p ∈ nlO ++ rest, @Ne Nat p.1 O ∧ @Ne Nat p.1 J) ∧ h'.IsListIter J Z j ∧ j ≤ zs.toArray.size ∧ os.length = j ∧ (∀ p ∈ nlO, h22.get? p.1 = none) ∧ DatAll (nlO ++ stat0) os (((ms.take j).map fun n => leanO lean (oN n)).map oneD), rfl, rfl, ⟨_, eZ, rfl, _, rfl⟩, ?li, ?lh, ?lt, ?lf⟩
        case li =>
          intro h' hs hit
          obtain ⟨oJ, hJ, _⟩ := id hit
          have ltO : @LT.lt Nat _ O h23.objs.size := Heap.lt_size (N24 _ (.head _)).1
          refine ⟨h', tk23, oo, [], [], 0, oJ, rfl, F23.keeps hs, fun p hp => ?_, Nat.ne_of_gt ltO, fun p hp => ⟨hoO p hp, Nat.ne_of_lt (Heap.lt_size (N24 p (.tail _ hp)).1)⟩, hit, Nat.zero_le _, rfl, fun _ h => absurd h List.not_mem_nil, .nil⟩
          rcases List.mem_cons.mp hp with rfl | hp
          · exact ⟨hJ, Nat.ne_of_gt F23.ns.lt, next_is_new F23⟩
          · exact (N24.grown hs) p hp
        case lh =>
          rintro J j _ ⟨h', tk, oo', os, nlO, c, oJ, rfl, F', N', hne, hoff, hit, hj, hol, hnew, hos⟩
          exact ⟨hit, ⟨_, (N' _ (.tail _ (.tail _ (List.mem_append_right _ hZm)))).1, rfl, _, rfl⟩, hj⟩
        case lf =>
          rintro J _ h3 ⟨h', tk, oo', os, nlO, c, oJ, rfl, F', N', hne, hoff, hit, hj, hol, hnew, hos⟩ hx3
          have NJ := N' _ (.head _)
          have F3 := fr_ext F' NJ.2.2 NJ.2.1 hx3
          have N3 : News s.heap L h3 ((O, W.listOf os.toArray c) :: (nlO ++ rest)) := news_ext (fun q hq => N' q (.tail _ hq)) (fun q hq => by
            rcases List.mem_cons.mp hq with rfl | hq
            · exact Ne.symm hne
            · exact (hoff q hq).2) hx3
          rw [List.size_toArray, hzl, List.take_length] at hos
          exact ⟨rfl, h3, tk, oo', os, nlO, c, rfl, F3, keepBut_of F3 N3 (fun q hq => .tail _ (List.mem_append_right _ (hrm _ (hr22 ▸ hq)))) kst22, (N3 _ (.head _)).1, fun p hp => ⟨(N3 p (.tail _ (List.mem_append_left _ hp))).1, hnew p hp⟩, hos⟩
        case lt =>
          rintro J j _ x9 hx9 ⟨h', tk, oo', os, nlO, c, oJ, rfl, F', N', hne, hoff, hit, hj, hol, hnew, hos⟩ h4 hit4 hs4
          have NJ := N' _ (.head _)
          have F4 := fr_ext F' NJ.2.2 NJ.2.1 (same_ext hs4)
          obtain ⟨oJ4, hJ4, hJ4'⟩ := id hit4
          have N4 : News s.heap L h4 ((J, oJ4) :: (O, W.listOf os.toArray c) :: (nlO ++ rest)) := fun p hp => by
            rcases List.mem_cons.mp hp with rfl | hp
            · exact ⟨hJ4, NJ.2⟩
            · exact news_ext (fun q hq => N' q (.tail _ hq)) (fun q hq => by
                rcases List.mem_cons.mp hq with rfl | hq
                · exact Ne.symm hne
                · exact (hoff q hq).2) (same_ext hs4) p hp
          obtain ⟨d, hd, hin⟩ := datAll_at hzs (by simpa using hx9)
          rw [List.getElem?_map] at hd
          obtain ⟨n, hn, rfl⟩ := Option.map_eq_some_iff.mp hd
          rw [dxN_one] at hin
          have hin' := hin
          obtain ⟨a9, t9, vs9, n9, rfl, ha9, hvs9⟩ := one_in hin
          have hjl : j < zs.toArray.size := (Array.getElem?_eq_some_iff.mp hx9).1
          have hjz : os.toArray.size ≤ sizeLine := by rw [List.size_toArray, sizeLine_eq, hol]; rw [List.size_toArray] at hj; omega
          have ha9r := hrm _ (st22 _ ha9)
          have hvl9 : (Value.str (oN n).1 t9 :: vs9).toArray.size ≤ sizeLine := by
            have := oN_len n
            have := hvs9.length
            rw [List.size_toArray, sizeLine_eq]; simp only [List.length_cons]; omega
          have htk : ms.take (j + 1) = ms.take j ++ [n] := take_snoc hn
          have fin1 : ∀ h9 tk9 m9, Fr s.heap L h9 m9 → (∀ y, m9 y = lmap Ls To Du Rs m0 (pn : Int) tl (some (.str piece tp)) (some (.bool lean)) (some (.ref O)) (some (.ref a9)) ore owa y) → News s.heap L h9 ((J, oJ4) :: (O, W.listOf (os ++ [Value.ref a9]).toArray (c + 1)) :: (nlO ++ rest)) → leanO lean (oN n) = oN n →
              ∃ h' tk oo' os nlO c oJ, ({ s with heap := h9, gens := gens', toks := tk9 } : Shared) = { s with heap := h', gens := gens', toks := tk } ∧ Fr s.heap L h' (lmap Ls To Du Rs m0 (pn : Int) tl (some (.str piece tp)) (some (.bool lean)) (some (.ref O)) oo' ore owa) ∧ News s.heap L h' ((J, oJ) :: (O, W.listOf os.toArray c) :: (nlO ++ rest)) ∧ @Ne Nat J O ∧ (∀ p ∈ nlO ++ rest, @Ne Nat p.1 O ∧ @Ne Nat p.1 J) ∧ h'.IsListIter J Z (j + 1) ∧ j + 1 ≤ zs.toArray.size ∧ os.length = j + 1 ∧ (∀ p ∈ nlO, h22.get? p.1 = none) ∧ DatAll (nlO ++ stat0) os (((ms.take (j + 1)).map fun n => leanO lean (oN n)).map oneD) := fun h9 tk9 m9 F9 e9 N9 el => by
            refine ⟨h9, tk9, _, os ++ [.ref a9], nlO, c + 1, oJ4, rfl, fr_congr F9 e9, N9, hne, hoff, ⟨oJ4, (N9 _ (.head _)).1, hJ4'⟩, hjl, by rw [List.length_append, hol]; rfl, hnew, ?_⟩
            rw [htk, List.map_append, List.map_append]
            refine datAll_app hos (.cons ?_ .nil)
            show DatIn _ _ (oneD (leanO lean (oN n)))
            rw [el]
            exact hin'.mono fun p hp => List.mem_append_right _ hp
          have fin2 : ∀ h9 tk9 m9 l9 t1 t2, Fr s.heap L h9 m9 → (∀ y, m9 y = lmap Ls To Du Rs m0 (pn : Int) tl (some (.str piece tp)) (some (.bool lean)) (some (.ref O)) (some (.ref a9)) ore owa y) → News s.heap L h9 ((l9, W.listOf #[.str (Str.ofString "refused") t1, .str (Str.ofString "kind") t2] 0) :: (J, oJ4) :: (O, W.listOf (os ++ [Value.ref l9]).toArray (c + 1)) :: (nlO ++ rest)) → @LT.lt Nat _ J l9 ∧ @LT.lt Nat _ O l9 ∧ (∀ p ∈ nlO ++ rest, @LT.lt Nat _ p.1 l9) → leanO lean (oN n) = (Str.ofString "refused", [dsS "kind"]) →
              ∃ h' tk oo' os nlO c oJ, ({ s with heap := h9, gens := gens', toks := tk9 } : Shared) = { s with heap := h', gens := gens', toks := tk } ∧ Fr s.heap L h' (lmap Ls To Du Rs m0 (pn : Int) tl (some (.str piece tp)) (some (.bool lean)) (some (.ref O)) oo' ore owa) ∧ News s.heap L h' ((J, oJ) :: (O, W.listOf os.toArray c) :: (nlO ++ rest)) ∧ @Ne Nat J O ∧ (∀ p ∈ nlO ++ rest, @Ne Nat p.1 O ∧ @Ne Nat p.1 J) ∧ h'.IsListIter J Z (j + 1) ∧ j + 1 ≤ zs.toArray.size ∧ os.length = j + 1 ∧ (∀ p ∈ nlO, h22.get? p.1 = none) ∧ DatAll (nlO ++ stat0) os (((ms.take (j + 1)).map fun n => leanO lean (oN n)).map oneD) := fun h9 tk9 m9 l9 t1 t2 F9 e9 N9 lt9 el => by
            refine ⟨h9, tk9, _, os ++ [.ref l9], (l9, W.listOf #[.str (Str.ofString "refused") t1, .str (Str.ofString "kind") t2] 0) :: nlO, c + 1, oJ4, rfl, fr_congr F9 e9, fun p hp => N9 p (mem_rot (mem_rot hp)), hne, fun p hp => ?_, ⟨oJ4, (N9 _ (.tail _ (.head _))).1, hJ4'⟩, hjl, by rw [List.length_append, hol]; rfl, fun p hp => ?_, ?_⟩
            · rcases List.mem_cons.mp hp with rfl | hp
              · exact ⟨Nat.ne_of_gt lt9.2.1, Nat.ne_of_gt lt9.1⟩
              · exact hoff p hp
            · rcases List.mem_cons.mp hp with rfl | hp
              · have NN := N9 _ (.head _)
                cases q : h22.get? l9 with
                | none => rfl
                | some o => exact absurd (lt9.2.2 (l9, o) (List.mem_append_right _ (hrm _ (hr22 ▸ mem_rest.mpr ⟨by
                    have := NN.2.1
                    have := Nat.ne_of_gt lt9.2.1
                    simp only [List.mem_cons, List.not_mem_nil, or_false, not_or]
                    exact ⟨NN.2.1, Nat.ne_of_gt lt9.2.1⟩, NN.2.2, q⟩)))) (Nat.lt_irrefl _)
              · exact hnew p hp
            · rw [htk, List.map_append, List.map_append]
              refine datAll_app (hos.mono fun p hp => .tail _ hp) (.cons ?_ .nil)
              show DatIn _ _ (oneD (leanO lean (oN n)))
              rw [el]
              exact .list (.head _) (.cons (.str _ _) (.cons (.str _ _) .nil))
          have hpush : ∀ v : Value, os.toArray.push v = (os ++ [v]).toArray := fun v => by simp
          clear hs4 hit hit4 N' F' NJ hx9 hos hnew hol hj
          have hoff1 : ∀ p ∈ nlO ++ rest, @Ne Nat p.1 O := fun p hp => (hoff p hp).1
          have ha9n := List.mem_append_right nlO ha9r
          clear hoff ha9r
          generalize hnr : nlO ++ rest = nr at *
          clear hnr
          cases lean with
          | false =>
            k_steps
            rename Fr _ _ _ _ => F9
            rename News _ _ _ _ => N9
            refine append_K F9 N9 (Upd.tail hne (Upd.head hoff1)) ?_ hjz
            intro h10 F10 N10
            rw [hpush] at N10
            clear F9 N9
            dsimp only
            refine wpAny_execs_nil ?_
            refine TurnF.next (fin1 _ _ _ F10 lmap_one N10 ?_)
            unfold leanO
            rw [if_neg (by simp)]
          | true =>
            k_steps
            rename Fr _ _ _ _ => F9
            rename News _ _ _ _ => N9
            refine item_listL (l := Value.str (oN n).1 t9 :: vs9) ⟨_, (N9 _ (.tail _ (.tail _ ha9n))).1, rfl, _, rfl⟩ (by decide) (by decide) rfl ?_
            k_steps
            · rename Fr _ _ _ _ => F9
              rename News _ _ _ _ => N9
              have l9 := (by assumption : @LT.lt Nat _ J _ ∧ @LT.lt Nat _ O _ ∧ AllLt _ nr)
              refine append_K F9 N9 (Upd.tail (Nat.ne_of_gt l9.2.1) (Upd.tail hne (Upd.head hoff1))) ?_ hjz
              intro h10 F10 N10
              rw [hpush] at N10
              clear F9 N9
              dsimp only
              refine wpAny_execs_nil ?_
              refine TurnF.next (fin2 _ _ _ _ _ _ F10 lmap_one N10 ⟨l9.1, l9.2.1, allLt_mem l9.2.2⟩ ?_)
              unfold leanO
              rw [if_pos ⟨rfl, beq_iff_eq.mp (by assumption)⟩]
            · rename Fr _ _ _ _ => F9
              rename News _ _ _ _ => N9
              refine append_K F9 N9 (Upd.tail hne (Upd.head hoff1)) ?_ hjz
              intro h10 F10 N10
              rw [hpush] at N10
              clear F9 N9
              dsimp only
              refine wpAny_execs_nil ?_
              refine TurnF.next (fin1 _ _ _ F10 lmap_one N10 ?_)
              unfold leanO
              rename (_ == _) = false => q9
              rw [if_neg (fun q => by rw [q.2] at q9; revert q9; decide)]
      -- HERE6
      rintro s' ⟨h24, tk24, oo4, os, nlO, cO, rfl, F24, kb24, eO4, hnO, hos⟩
      have kb2 : KeepBut [L] h21 h24 := fun b o n e => kb24 b o (fun q => by
        simp only [List.mem_cons, List.not_mem_nil, or_false] at q n
        rcases q with q | q
        · exact n q
        · rw [q, nO] at e; cases e) (kb22 b o n e)
      have nls24 : ∀ p ∈ (O, W.listOf os.toArray cO) :: nlO, h24.get? p.1 = some p.2 ∧ h21.get? p.1 = none := fun p hp => by
        rcases List.mem_cons.mp hp with rfl | hp
        · exact ⟨eO4, nO⟩
        · refine ⟨(hnO p hp).1, ?_⟩
          cases q : h21.get? p.1 with
          | none => rfl
          | some o =>
            have h2 := (hnO p hp).2
            by_cases qL : p.1 = L
            · obtain ⟨o', _, _, e, _⟩ := F22.ns
              rw [qL, e] at h2; cases h2
            · rw [kb22 _ _ (by simpa using qL) q] at h2; cases h2
      have C24 := C21.stay M F24 kb2 nls24
      have hosl : os.length = k := by
        have := hos.length
        rw [List.length_map, List.length_map, List.length_take, List.length_drop] at this
        omega
      replace hos : DatAll ((O, W.listOf os.toArray cO) :: nlO ++ stat) os ((((ns.drop pn).take k).map fun n => leanO lean (oN n)).map oneD) := hos.mono fun p hp => by
        rcases List.mem_append.mp hp with hp | hp
        · exact List.mem_append_left _ (.tail _ hp)
        · exact List.mem_append_right _ (hsub _ hp)
      have hsub24 : ∀ p ∈ stat0, p ∈ (O, W.listOf os.toArray cO) :: nlO ++ stat := fun p hp => List.mem_append_right _ (hsub p hp)
      have hOm : (O, W.listOf os.toArray cO) ∈ (O, W.listOf os.toArray cO) :: nlO ++ stat := .head _
      have hxi := hx
      clear C21 C22 kb22 kb24 nls24 kb2 eO4 hnO eO nO F22 nOs hsub hx hxp gO nOL
      generalize (O, W.listOf os.toArray cO) :: nlO ++ stat = stat4 at *
      refine cut (fun s' => ∃ h' tk tl', s' = { s with heap := h', gens := gens', toks := tk } ∧ Fr s.heap L h' (lmap Ls To Du Rs m0 ((pn : Int) + (k : Int)) tl' (some (.str piece tp)) (some (.bool lean)) (some (.ref O)) oo4 ore owa) ∧ KeepBut [L] h24 h') ?_ ?_
      · have N24 : News s.heap L h24 (restOf s.heap h24 [L]) := rest_news (.head _)
        generalize hr24 : restOf s.heap h24 [L] = r24 at N24
        have kst24 := C24.ent.st
        clear C24 hpc
        k_steps
        rename Fr _ _ _ _ => F9
        rename News _ _ _ _ => N9
        have F10 := fr_congr F9 lmap_place
        rw [show Txt.count piece (Str.ofString "\n") = (k : Int) from hcnt] at F10
        exact ⟨rfl, _, _, _, rfl, F10, keepBut_of F9 N9 (fun q hq => (hr24 ▸ hq)) kst24⟩
      rintro s' ⟨h25, tk25, tl25, rfl, F25, kb25⟩
      have C25 := C24.stay0 M F25 kb25
      clear C24 F24 kb25
      refine wpAny_execs_cons ?_
      refine for_list ?_
      walk1
      have eRs := C25.ent.on _ (hsub24 _ hmRs)
      refine ⟨Rs, #[.ref (ak 0), .ref (ak 1), .ref (ak 2)], fun J j s' => ∃ h' gens2 tk' ore2 owa2 stat2 dat2 oJ, s' = { s with heap := h', gens := gens2, toks := tk' } ∧ (∀ x ∈ gens2, x.bare = true) ∧ Fr s.heap L h' (lmap Ls To Du Rs m0 ((pn : Int) + (k : Int)) tl25 (some (.str piece tp)) (some (.bool lean)) (some (.ref O)) oo4 ore2 owa2) ∧ Cr w.params s.heap [(J, oJ), (I, oI)] Dk Du To mv stat2 (fun q => if q < j then bf else buf) dat2 dat2 h' ∧ (∀ p ∈ stat4, p ∈ stat2) ∧ DatOk dat2 ∧ dat2.length ≤ 5 + 6 * i + 2 * j ∧ h'.IsListIter J Rs j ∧ j ≤ 3 ∧ J ≠ I, rfl, rfl, ⟨_, eRs, rfl, _, rfl⟩, ?ri, ?rh, ?rt, ?rf⟩
      case ri =>
        intro h' hs hit
        obtain ⟨oJ, hJ, _⟩ := id hit
        have nJ : h25.get? h25.objs.size = none := Heap.get?_none_of_le (Nat.le_refl _)
        refine ⟨h', gens', tk25, ore, owa, stat4, dat, oJ, rfl, hb, F25.keeps hs, (C25.more hJ nJ hs).rebuf (fun q _ => (if_neg (Nat.not_lt_zero q)).symm), fun _ hp => hp, hok, hlen, hit, Nat.zero_le _, fun q => ?_⟩
        have := (C25.it _ (.head _)).1
        rw [show h25.get? I = none from q ▸ nJ] at this
        cases this
      case rh =>
        rintro J j _ ⟨h', gens2, tk', ore2, owa2, stat2, dat2, oJ, rfl, hb2, F', C', hsub2, hok2, hlen2, hit2, hj, nJI⟩
        exact ⟨hit2, ⟨_, C'.ent.on _ (hsub2 _ (hsub24 _ hmRs)), rfl, _, rfl⟩, hj⟩
      case rf =>
        rintro J _ h3 ⟨h', gens2, tk', ore2, owa2, stat2, dat2, oJ, rfl, hb2, F', C', hsub2, hok2, hlen2, hit2, hj, nJI⟩ hx3
        have gJ := (C'.ent.alive J (.head _)).2
        have nJm := (C'.it _ (.head _)).2
        have F3 := fr_ext F' gJ (fun q => nJm (q ▸ M.memL)) hx3
        have C3 := C'.after (fun k hk => M.memD hk) M.memDu M.memTo (fun p hp => by rw [List.mem_singleton.mp hp]; exact Ne.symm nJI) hx3
        have I3 := (C3.it _ (.head _)).1
        have L3 := C3.ls.rebuf (bufs' := fun _ => bf) (fun q hq => if_pos hq)
        dsimp only
        refine wpAny_execs_nil ?_
        exact ⟨rfl, h3, gens2, tk', _, _, _, _, _, _, _, _, stat2, bf, dat2, rfl, hb2, F3.ns, C3.ent, fun p hp => hsub2 p (hsub24 p hp), L3, hok2, by omega, ⟨oI, I3, hI20'⟩, (Array.getElem?_eq_some_iff.mp hxi).1, nI, hpn'⟩
      case rt =>
        rintro J j _ x9 hx9 ⟨h', gens2, tk', ore2, owa2, stat2, dat2, oJ, rfl, hb2, F', C', hsub2, hok2, hlen2, hit2, hj, nJI⟩ h30 hit30 hs30
        obtain ⟨hj3, rfl⟩ := three_at (f := fun q => Value.ref (ak q)) hx9
        have gJ := (C'.ent.alive J (.head _)).2
        have nJm := (C'.it _ (.head _)).2
        obtain ⟨oJ30, hJ30, hJ30'⟩ := id hit30
        have F30 := fr_ext F' gJ (fun q => nJm (q ▸ M.memL)) (same_ext hs30)
        have C30 := C'.iter (fun k hk => M.memD hk) M.memDu M.memTo (fun p hp => by rw [List.mem_singleton.mp hp]; exact Ne.symm nJI) (same_ext hs30) hJ30
        clear F' C' hs30 hit30 hit2 hx9 gJ
        refine cutA (fun s3 => ∃ h9 tk9, s3 = { s with heap := h9, gens := gens2, toks := tk9 } ∧ Fr s.heap L h9 (lmap Ls To Du Rs m0 ((pn : Int) + (k : Int)) tl25 (some (.str piece tp)) (some (.bool lean)) (some (.ref O)) oo4 (some (.ref (Rk j))) (some (.str (wayN j) (wk j)))) ∧ KeepBut [L] h30 h9) ?_ ?_
        · have hm9 := hsub2 _ (hsub24 _ (hak j hj3))
          have N30 : News s.heap L h30 ((ak j, W.listOf #[.ref (Rk j), .str (wayN j) (wk j)] 0) :: restOf s.heap h30 [L]) := fun p hp => by
            rcases List.mem_cons.mp hp with rfl | hp
            · exact ⟨C30.ent.on _ hm9, fun q => C30.ent.off _ hm9 (List.mem_append_right _ (q ▸ M.memL)), C30.ent.new _ hm9⟩
            · exact rest_news (.head _) p hp
          generalize hr30 : restOf s.heap h30 [L] = r30 at N30
          have kst30 := C30.ent.st
          clear C30 hpc
          k_steps
          rename Fr _ _ _ _ => F9
          rename News _ _ _ _ => N9
          exact ⟨_, _, rfl, fr_congr F9 lmap_rw, keepBut_of F9 N9 (fun q hq => .tail _ (hr30 ▸ hq)) kst30⟩
        rintro _ s3 ⟨h31, tk31, rfl, F31, kb31⟩
        have C31 := C30.stay0 M F31 kb31
        clear C30 F30 kb31
        refine turn_next ?_
        generalize hones : (((ns.drop pn).take k).map fun n => leanO lean (oN n)) = ones at hos
        have hvl : ∀ o ∈ ones, o.2.length ≤ 4096 := fun o ho => by
          rw [← hones] at ho
          obtain ⟨n, _, rfl⟩ := List.mem_map.mp ho
          exact Nat.le_trans (leanO_len (oN_len n)) (by decide)
        have hdz : dat2.length ≤ 200 := by
          have := (List.getElem?_eq_some_iff.mp hpc).1
          have h9 := hP2.length
          rw [List.length_map] at h9
          omega
        refine cut (fun s' => ∃ h' tk nl, s' = { s with heap := h', gens := gens2, toks := tk } ∧ Fr s.heap L h' (lmap Ls To Du Rs m0 ((pn : Int) + (k : Int)) tl25 (some (.str piece tp)) (some (.bool lean)) (some (.ref O)) oo4 (some (.ref (Rk j))) (some (.str (wayN j) (wk j)))) ∧ Cr w.params s.heap [(J, oJ30), (I, oI)] Dk Du To mv (nl ++ stat2) (fun q => if q < j then bf else buf) (dat2 ++ [.list (dueL (wayN j) ones)]) dat2 h') ?_ ?_
        · obtain ⟨us, nu, eDu, hus⟩ := C31.ls.due
          have huz : us.toArray.size ≤ sizeLine := by rw [List.size_toArray, sizeLine_eq, hus.length]; omega
          have N31 : News s.heap L h31 ((Du, W.listOf us.toArray nu) :: restOf s.heap h31 [L, Du]) := fun p hp => by
            rcases List.mem_cons.mp hp with rfl | hp
            · exact ⟨eDu, Ne.symm M.LDu, (C31.ent.alive _ (List.mem_append_right _ M.memDu)).2⟩
            · exact rest_news (.head _) p hp
          have hin31 := C31.inRest (sk := [L, Du]) (fun b hb => by
            rcases List.mem_cons.mp hb with rfl | hb
            · exact M.memL
            · exact List.mem_singleton.mp hb ▸ M.memDu)
          have hrD : ∀ p ∈ restOf s.heap h31 [L, Du], @Ne Nat p.1 Du := fun p hp q => rest_ne p hp (by rw [show p.1 = Du from q]; simp)
          generalize hr31 : restOf s.heap h31 [L, Du] = r31 at N31 hin31 hrD
          have kst31 := C31.ent.st
          iterate 15 walk1
          refine wpAny_call ?_
          refine' due_spec (ds := ones) (nl0 := stat4) (X.keeps F31.keep) (T.keeps F31.keep) ?dB rfl ?d1 ?d2 ?dO hos ?dn ?dl hvl (wayN_in j) ?dr
          case dB => exact below_push K0 F31 rfl (fun q => nomatch q)
          case d1 => show dp + 1 < 800; omega
          case d2 => show un + 3 < 8000; omega
          case dO => exact ⟨_, C31.ent.on _ (hsub2 _ hOm), rfl, _, rfl⟩
          case dn => exact fun p hp => C31.ent.on _ (hsub2 _ hp)
          case dl => omega
          intro h32 tk32 nl9 got k32 hm32 hdat
          dsimp only
          have N32 : News s.heap L h32 ((Du, W.listOf us.toArray nu) :: (nl9 ++ r31)) := fun p hp => by
            rcases List.mem_cons.mp hp with rfl | hp
            · exact (N31.grown k32) _ (.head _)
            rcases List.mem_append.mp hp with hp | hp
            · exact ⟨(hm32 p hp).1, fresh_for F31 (hm32 p hp).2⟩
            · exact (N31.grown k32) p (.tail _ hp)
          have hnD : ∀ p ∈ nl9 ++ r31, @Ne Nat p.1 Du := fun p hp q => by
            rcases List.mem_append.mp hp with hp | hp
            · have := (hm32 p hp).2
              rw [show p.1 = Du from q, show h31.get? Du = _ from eDu] at this; cases this
            · exact hrD p hp q
          have F32 := F31.keeps k32
          clear N31
          k_steps
          all_goals first | exact hnD | skip
          rename Fr _ _ _ _ => F33
          rename News _ _ _ _ => N33
          rw [show us.toArray.push (Value.ref got) = (us ++ [Value.ref got]).toArray by simp] at N33
          have kb33 := keepBut_of (sk := [L, Du]) F33 N33 (fun q hq => .tail _ (List.mem_append_right _ (hr31 ▸ hq))) kst31
          have C33 := C31.dueApp M F33 kb33 (nl := nl9) (fun p hp => ⟨(N33 _ (.tail _ (List.mem_append_left _ hp))).1, (hm32 p hp).2⟩) hus (d := .list (dueL (wayN j) ones)) (hdat.mono fun p hp => by
            rcases List.mem_append.mp hp with hp | hp
            · exact List.mem_append_left _ hp
            · exact List.mem_append_right _ (hsub2 _ hp)) (N33 _ (.head _)).1
          exact ⟨rfl, _, _, nl9, rfl, F33, C33⟩
        rintro s' ⟨h34, tk34, nl4, rfl, F34, C34⟩
        clear C31 F31
        have hlt2 := lines_law lean (wayN j) (wayN_in j) ((ns.drop pn).take k)
        rw [hones] at hlt2
        obtain ⟨lns, hlns, hlok, hlaw, hdok⟩ := hlt2
        refine cut (fun s' => ∃ h' gens3 tk nl, s' = { s with heap := h', gens := gens3, toks := tk } ∧ (∀ x ∈ gens3, x.bare = true) ∧ Fr s.heap L h' (lmap Ls To Du Rs m0 ((pn : Int) + (k : Int)) tl25 (some (.str piece tp)) (some (.bool lean)) (some (.ref O)) oo4 (some (.ref (Rk j))) (some (.str (wayN j) (wk j)))) ∧ Cr w.params s.heap [(J, oJ30), (I, oI)] Dk Du To mv (nl ++ (nl4 ++ stat2)) (fun q => if q < j + 1 then bf else buf) (dat2 ++ [.list (dueL (wayN j) ones)]) (dat2 ++ [.list (dueL (wayN j) ones)]) h') ?_ ?_
        · obtain ⟨us, nu, eTo, hus⟩ := C34.ls.told
          have huz : us.toArray.size ≤ sizeLine := by rw [List.size_toArray, sizeLine_eq, hus.length]; omega
          have rdj := C34.ls.rds j hj3
          rw [if_neg (Nat.lt_irrefl j)] at rdj
          obtain ⟨kk1, tt1, kk2, kk3, tt3, eDk⟩ := rdj
          generalize hoD : dictOf [ent w.params (Str.ofString "errors") kk1 (.str (wayN j) tt1), ent w.params (Str.ofString "stream") kk2 .none, ent w.params (Str.ofString "buffer") kk3 (.str buf tt3)] 3 = oD at eDk
          have hRm : (Rk j, instObj 273 (Dk j)) ∈ nl4 ++ stat2 := List.mem_append_right _ (hsub2 _ (hsub24 _ (hRk j hj3)))
          have eRk := C34.ent.on _ hRm
          have gRk := C34.ent.new _ hRm
          have nRm : ∀ b ∈ mv, @Ne Nat (Rk j) b := fun b hb q => C34.ent.off _ hRm (List.mem_append_right _ (show Rk j ∈ mv from q ▸ hb))
          have gDk := (C34.ent.alive _ (List.mem_append_right _ (M.memD hj3))).2
          have gTo := (C34.ent.alive _ (List.mem_append_right _ M.memTo)).2
          have N34 : News s.heap L h34 ((To, W.listOf us.toArray nu) :: (Dk j, oD) :: restOf s.heap h34 [L, To, Dk j]) := fun p hp => by
            rcases List.mem_cons.mp hp with rfl | hp
            · exact ⟨eTo, Ne.symm M.LTo, gTo⟩
            rcases List.mem_cons.mp hp with rfl | hp
            · exact ⟨eDk, M.DL j hj3, gDk⟩
            · exact rest_news (.head _) p hp
          have hin34 := C34.inRest (sk := [L, To, Dk j]) (fun b hb => by
            simp only [List.mem_cons, List.not_mem_nil, or_false] at hb
            rcases hb with rfl | rfl | rfl
            · exact M.memL
            · exact M.memTo
            · exact M.memD hj3)
          have hrT : ∀ p ∈ restOf s.heap h34 [L, To, Dk j], @Ne Nat p.1 To ∧ @Ne Nat p.1 (Dk j) := fun p hp => ⟨fun q => rest_ne p hp (by rw [show p.1 = To from q]; simp), fun q => rest_ne p hp (by rw [show p.1 = Dk j from q]; simp)⟩
          generalize hr34 : restOf s.heap h34 [L, To, Dk j] = r34 at N34 hin34 hrT
          have kst34 := C34.ent.st
          iterate 17 walk1
          refine wpAny_call ?_
          have hbh : s.heap.StaysIn (hideH (hid3 L (Rk j) (Dk j)) h34) := stays_hide F34.keep fun a q => by
            rcases hid3_t q with rfl | rfl | rfl
            · exact none_above F34.above
            · exact gRk
            · exact gDk
          refine' told_spec (base := hideH (hid3 L (Rk j) (Dk j)) h34) (lns := lns) (buf := buf) (bf := bf) (X.keeps hbh) (T.keeps hbh) hide_stays (Nat.le_of_eq hide_size) ?t1 ?t2 rfl rfl ?tf eRk ?td (hide_none hid3_R) (hide_none hid3_D) (nRm _ (M.memD hj3)) ?tn (wayN_in j) (by omega) (by omega) (by rw [hlns]; exact hspl) hlok hb2 ?tr
          case t1 => show dp + 1 < 600; omega
          case t2 => show un + 3 < 6000; omega
          case tf =>
            obtain ⟨o, ho, hd'⟩ := ns_notFields F34.ns
            exact ⟨(fun q => nomatch q), ⟨L, o, rfl, hide_none hid3_L, ho, hd'⟩, trivial⟩
          case td => exact ⟨kk1, tt1, kk2, kk3, tt3, by rw [hoD]; exact eDk⟩
          case tn =>
            intro b hb' q
            have q' : b = L := List.mem_singleton.mp q
            simp only [List.mem_cons, List.not_mem_nil, or_false] at hb'
            rcases hb' with rfl | rfl
            · exact nRm _ M.memL q'
            · exact M.DL j hj3 q'
          intro h35 gens3 tk35 nl9 got st35 ff35 ns35 eR35 rd35 hm35 hdat hb35
          dsimp only
          have kp35 : ∀ b o, b ≠ L → b ≠ Dk j → h34.get? b = some o → h35.get? b = some o := fun b o n1 n2 e => by
            by_cases q : b = Rk j
            · rw [q, show h34.get? (Rk j) = _ from eRk] at e
              rw [q]
              exact (show h35.get? (Rk j) = some (instObj 273 (Dk j)) from eR35).trans e
            · exact st35 b o (by rw [hide_some (hid3_f n1 q n2)]; exact e)
          have F35 : Fr s.heap L h35 _ := ⟨ns35 L (.head _) _ F34.ns, fun b o e => st35 b o (hbh b o e), F34.above⟩
          have hn35 : ∀ p ∈ nl9, h35.get? p.1 = some p.2 ∧ h34.get? p.1 = none := fun p hp => by
            obtain ⟨e1, e2, e3⟩ := hm35 p hp
            refine ⟨e1, ?_⟩
            simp only [List.mem_cons, not_or] at e3
            have nL : p.1 ≠ L := fun q => e3.2.2 (List.mem_singleton.mpr q)
            rwa [hide_some (hid3_f nL e3.1 e3.2.1)] at e2
          obtain ⟨kd1, td1, kd2, kd3, td3, eD35⟩ := rd35
          generalize hoD2 : dictOf [ent w.params (Str.ofString "errors") kd1 (.str (wayN j) td1), ent w.params (Str.ofString "stream") kd2 .none, ent w.params (Str.ofString "buffer") kd3 (.str bf td3)] 3 = oD2' at eD35
          have hDTo : @Ne Nat (Dk j) To := M.DTo j hj3
          have N35 : News s.heap L h35 ((To, W.listOf us.toArray nu) :: (Dk j, oD2') :: (nl9 ++ r34)) := fun p hp => by
            rcases List.mem_cons.mp hp with rfl | hp
            · exact ⟨kp35 _ _ (Ne.symm M.LTo) (Ne.symm (M.DTo j hj3)) eTo, (N34 _ (.head _)).2⟩
            rcases List.mem_cons.mp hp with rfl | hp
            · exact ⟨eD35, (N34 _ (.tail _ (.head _))).2⟩
            rcases List.mem_append.mp hp with hp | hp
            · exact ⟨(hn35 p hp).1, fresh_for F34 (hn35 p hp).2⟩
            · have NN := N34 p (.tail _ (.tail _ hp))
              exact ⟨kp35 _ _ NN.2.1 (hrT p hp).2 NN.1, NN.2⟩
          have hnT : ∀ p ∈ nl9 ++ r34, @Ne Nat p.1 To := fun p hp q => by
            rcases List.mem_append.mp hp with hp | hp
            · have := (hn35 p hp).2
              rw [show p.1 = To from q, show h34.get? To = _ from eTo] at this; cases this
            · exact (hrT p hp).1 q
          clear N34
          k_steps
          rename Fr _ _ _ _ => F9
          rename News _ _ _ _ => N9
          refine append_K (s := { s with heap := h35, gens := gens3, toks := tk35 }) F9 N9 (Upd.head (fun q hq => by
            rcases List.mem_cons.mp hq with rfl | hq
            · exact hDTo
            · exact hnT q hq)) ?_ huz
          intro h36 F36 N36
          clear F9 N9
          rw [show us.toArray.push (Value.ref got) = (us ++ [Value.ref got]).toArray by simp] at N36
          have kb36 : ∀ b o, b ≠ L → b ≠ To → b ≠ Dk j → h34.get? b = some o → _ := fun b o n1 n2 n3 e => by
            cases q : s.heap.get? b with
            | none => exact (N36 (b, o) (.tail _ (.tail _ (List.mem_append_right _ (hr34 ▸ mem_rest.mpr ⟨by simp [n1, n2, n3], q, e⟩))))).1
            | some o' =>
              have := kst34 b o' q
              rw [e] at this
              cases this
              exact F36.keep b _ q
          have hn36 := fun p (hp : p ∈ nl9) => And.intro (N36 p (.tail _ (.tail _ (List.mem_append_left _ hp)))).1 (hn35 p hp).2
          obtain ⟨us2, nu2, eDu2, hus2⟩ := C34.ls.due
          have C36 := C34.to M F36 (nl := nl9) (fun b o n e => kb36 b o (fun q => n (q ▸ M.memL)) (fun q => n (q ▸ M.memTo)) (fun q => n (q ▸ M.memD hj3)) e) hn36
            (bufs' := fun q => if q < j + 1 then bf else buf) (datD' := dat2 ++ [.list (dueL (wayN j) ones)]) (datT' := dat2 ++ [.list (dueL (wayN j) ones)]) ⟨fun q hq => by
              by_cases qj : q = j
              · subst qj
                rw [if_pos (Nat.lt_succ_self q)]
                exact ⟨kd1, td1, kd2, kd3, td3, by rw [hoD2]; exact (N36 _ (.tail _ (.head _))).1⟩
              · rw [show (if q < j + 1 then bf else buf) = (if q < j then bf else buf) by
                  by_cases q9 : q < j
                  · rw [if_pos q9, if_pos (Nat.lt_succ_of_lt q9)]
                  · rw [if_neg q9, if_neg (by omega)]]
                exact isRd_at (C34.ls.rds q hq) fun o e => kb36 _ o (M.DL q hq) (M.DTo q hq) (M.DD q j hq hj3 qj) e,
              ⟨us2, nu2, kb36 _ _ (Ne.symm M.LDu) M.DuTo (Ne.symm (M.DDu j hj3)) eDu2, hus2.mono fun p hp => List.mem_append_right _ hp⟩,
              ⟨_, _, (N36 _ (.head _)).1, datAll_app (hus.mono fun p hp => List.mem_append_right _ hp) (.cons (by
                rw [hlaw] at hdat
                exact hdat.mono fun p hp => List.mem_append_left _ hp) .nil)⟩⟩
          dsimp only
          exact ⟨rfl, _, gens3, _, nl9, rfl, hb35, F36, C36⟩
        rintro s' ⟨h37, gens3, tk37, nl5, rfl, hb37, F37, C37⟩
        clear C34 F34 hlns hlok hlaw hspl
        generalize hst5 : nl5 ++ (nl4 ++ stat2) = stat5 at *
        have hsub5 : ∀ p ∈ stat2, p ∈ stat5 := fun p hp => hst5 ▸ List.mem_append_right _ (List.mem_append_right _ hp)
        clear hst5
        generalize hdat5 : dat2 ++ [Dat.list (dueL (wayN j) ones)] = dat5 at *
        have hdz5 : dat5.length ≤ 201 := by rw [← hdat5, List.length_append]; simp only [List.length_cons, List.length_nil]; omega
        refine cut (fun s' => ∃ h' tk nl, s' = { s with heap := h', gens := gens3, toks := tk } ∧ Fr s.heap L h' (lmap Ls To Du Rs m0 ((pn : Int) + (k : Int)) tl25 (some (.str piece tp)) (some (.bool lean)) (some (.ref O)) oo4 (some (.ref (Rk j))) (some (.str (wayN j) (wk j)))) ∧ Cr w.params s.heap [(J, oJ30), (I, oI)] Dk Du To mv (nl ++ stat5) (fun q => if q < j + 1 then bf else buf) (dat5 ++ [.list []]) dat5 h') ?_ ?_
        · obtain ⟨us, nu, eDu, hus⟩ := C37.ls.due
          have huz : us.toArray.size ≤ sizeLine := by rw [List.size_toArray, sizeLine_eq, hus.length]; omega
          have N37 : News s.heap L h37 ((Du, W.listOf us.toArray nu) :: restOf s.heap h37 [L, Du]) := fun p hp => by
            rcases List.mem_cons.mp hp with rfl | hp
            · exact ⟨eDu, Ne.symm M.LDu, (C37.ent.alive _ (List.mem_append_right _ M.memDu)).2⟩
            · exact rest_news (.head _) p hp
          have hrD : ∀ p ∈ restOf s.heap h37 [L, Du], @Ne Nat p.1 Du := fun p hp q => rest_ne p hp (by rw [show p.1 = Du from q]; simp)
          generalize hr37 : restOf s.heap h37 [L, Du] = r37 at N37 hrD
          have kst37 := C37.ent.st
          k_steps
          rename Fr _ _ _ _ => F9
          rename News _ _ _ _ => N9
          have l9 := (by assumption : @LT.lt Nat _ Du _ ∧ AllLt _ r37)
          refine append_K F9 N9 (Upd.tail (Nat.ne_of_gt l9.1) (Upd.head hrD)) ?_ huz
          intro h38 F38 N38
          have NN := N38 _ (.head _)
          rw [show ∀ v : Value, us.toArray.push v = (us ++ [v]).toArray from fun v => by simp] at N38
          have C38 := C37.dueApp M F38 (keepBut_of (sk := [L, Du]) F38 N38 (fun q hq => .tail _ (.tail _ (hr37 ▸ hq))) kst37) (nl := [(_, W.listOf #[] 0)]) (fun p hp => by
            rw [List.mem_singleton.mp hp]
            exact ⟨NN.1, new_none hr37 NN.2.1 NN.2.2 l9.1 l9.2⟩) hus (d := .list []) (.list (vs := []) (List.mem_append_left _ (.head _)) .nil) (N38 _ (.tail _ (.head _))).1
          dsimp only
          exact ⟨rfl, _, _, _, rfl, F38, C38⟩
        rintro s' ⟨h39, tk39, nl6, rfl, F39, C39⟩
        clear C37 F37
        refine cut (fun s' => ∃ h' gens4 tk nl, s' = { s with heap := h', gens := gens4, toks := tk } ∧ (∀ x ∈ gens4, x.bare = true) ∧ Fr s.heap L h' (lmap Ls To Du Rs m0 ((pn : Int) + (k : Int)) tl25 (some (.str piece tp)) (some (.bool lean)) (some (.ref O)) oo4 (some (.ref (Rk j))) (some (.str (wayN j) (wk j)))) ∧ Cr w.params s.heap [(J, oJ30), (I, oI)] Dk Du To mv (nl ++ (nl6 ++ stat5)) (fun q => if q < j + 1 then bf else buf) (dat5 ++ [.list []]) (dat5 ++ [.list []]) h') ?_ ?_
        · obtain ⟨us, nu, eTo, hus⟩ := C39.ls.told
          have huz : us.toArray.size ≤ sizeLine := by rw [List.size_toArray, sizeLine_eq, hus.length]; omega
          have rdj := C39.ls.rds j hj3
          rw [if_pos (Nat.lt_succ_self j)] at rdj
          have rdj' := rdj
          obtain ⟨kk1, tt1, kk2, kk3, tt3, eDk⟩ := rdj'
          have hRm : (Rk j, instObj 273 (Dk j)) ∈ nl6 ++ stat5 := List.mem_append_right _ (hsub5 _ (hsub2 _ (hsub24 _ (hRk j hj3))))
          have eRk := C39.ent.on _ hRm
          have gRk := C39.ent.new _ hRm
          have nRm : ∀ b ∈ mv, @Ne Nat (Rk j) b := fun b hb q => C39.ent.off _ hRm (List.mem_append_right _ (show Rk j ∈ mv from q ▸ hb))
          have gDk := (C39.ent.alive _ (List.mem_append_right _ (M.memD hj3))).2
          have gTo := (C39.ent.alive _ (List.mem_append_right _ M.memTo)).2
          have N39 : News s.heap L h39 ((To, W.listOf us.toArray nu) :: (Dk j, dictOf [ent w.params (Str.ofString "errors") kk1 (.str (wayN j) tt1), ent w.params (Str.ofString "stream") kk2 .none, ent w.params (Str.ofString "buffer") kk3 (.str bf tt3)] 3) :: (Rk j, instObj 273 (Dk j)) :: restOf s.heap h39 [L, To]) := fun p hp => by
            rcases List.mem_cons.mp hp with rfl | hp
            · exact ⟨eTo, Ne.symm M.LTo, gTo⟩
            rcases List.mem_cons.mp hp with rfl | hp
            · exact ⟨eDk, M.DL j hj3, gDk⟩
            rcases List.mem_cons.mp hp with rfl | hp
            · exact ⟨eRk, nRm _ M.memL, gRk⟩
            · exact rest_news (.head _) p hp
          have hrT : ∀ p ∈ restOf s.heap h39 [L, To], @Ne Nat p.1 To := fun p hp q => rest_ne p hp (by rw [show p.1 = To from q]; simp)
          generalize hr39 : restOf s.heap h39 [L, To] = r39 at N39 hrT
          have kst39 := C39.ent.st
          iterate 6 walk1
          k_dflt (refine ListComp_N (by with_unfolding_all rfl) (by decide) (by rfl) (by decide) ?_)
          iterate 16 walk1
          refine wpAny_call ?_
          rename Fr _ _ _ _ => F40
          rename News _ _ _ _ => N40
          have ltD := (by assumption : @LT.lt Nat _ To _ ∧ @LT.lt Nat _ (Dk j) _ ∧ @LT.lt Nat _ (Rk j) _ ∧ AllLt _ r39)
          have kb40 := keepBut_of (sk := [L, To]) F40 N40 (fun q hq => .tail _ (.tail _ (.tail _ (.tail _ (hr39 ▸ hq))))) kst39
          refine' next_none (base := s.heap) (way := wayN j) (buf := bf) X T F40.keep (Nat.le_of_lt (Nat.lt_of_le_of_lt F40.above F40.ns.lt)) ?n1 (N40 _ (.tail _ (.tail _ (.tail _ (.head _))))).1 ⟨_, _, _, _, _, (N40 _ (.tail _ (.tail _ (.head _)))).1⟩ gRk gDk ?nr
          case n1 => show dp + 1 < 800; omega
          intro L9 G h41 gs tk41 k41 nL9 nG nLG hbr hgen hLa hgo
          have F41 := F40.keeps k41
          have N41 := N40.grown k41
          have hga := hgen
          obtain ⟨oG, _, _, eG, _⟩ := hga
          refine ⟨G, gens3.size, gs, L9, [_], rfl, ⟨rfl, rfl, by show dp + 1 < 689; omega, by show un + 3 < 10 * 689; omega⟩, T.nolimit.keeps F41.keep, hgen, Array.getElem?_push_size .., ?_, hLa, ⟨oG, eG⟩, fun A outer s2 OA ks => hgo A outer s2 OA ks, ?_⟩
          · intro x hx
            rcases Array.mem_push.mp hx with q | q
            · exact hb37 x q
            · exact q ▸ hbr
          intro h42 gens4 tk42 D kb42 nD eD hb42
          have nLL9 : ∀ b o, h39.get? b = some o → b ≠ L → b ≠ To → b ≠ L9 := fun b o e n1 n2 q => by
            have := kb40 b o (by simp [n1, n2]) e
            rw [q, nL9] at this; cases this
          have l9L : L ≠ L9 := fun q => by
            obtain ⟨o, _, _, e, _⟩ := F40.ns
            rw [q, nL9] at e; cases e
          have l9T : To ≠ L9 := fun q => by
            have := (N40 _ (.tail _ (.head _))).1
            rw [show (To, W.listOf us.toArray nu).1 = L9 from q, nL9] at this; cases this
          have F42 : Fr s.heap L h42 _ := ⟨F41.ns.at' fun o e => kb42 L o (by simpa using l9L) e, fun b o e => kb42 b o (fun q => by
            have := F40.keep b o e
            rw [List.mem_singleton.mp q, nL9] at this; cases this) (F41.keep b o e), F41.above⟩
          have nD39 : h39.get? D = none := none_back (fun b o n e => k41 b o (kb40 b o n e)) (fun b hb => by
            rcases List.mem_cons.mp hb with rfl | hb
            · obtain ⟨o, _, _, e, _⟩ := F41.ns
              exact ⟨o, e⟩
            · rw [List.mem_singleton.mp hb]
              exact ⟨_, (N41 _ (.tail _ (.head _))).1⟩) nD
          have nDT : @Ne Nat D To := fun q => by
            rw [show D = To from q, show h39.get? To = _ from eTo] at nD39; cases nD39
          have N42 : News s.heap L h42 ((D, LCg.lst []) :: (To, W.listOf us.toArray nu) :: r39) := fun p hp => by
            rcases List.mem_cons.mp hp with rfl | hp
            · exact ⟨eD, fresh_for F41 nD⟩
            rcases List.mem_cons.mp hp with rfl | hp
            · have NN := N41 _ (.tail _ (.head _))
              exact ⟨kb42 _ _ (by simpa using l9T) NN.1, NN.2⟩
            · have NN := N41 p (.tail _ (.tail _ (.tail _ (.tail _ hp))))
              have e39 : h39.get? p.1 = some p.2 := (mem_rest.mp (show (p.1, p.2) ∈ restOf s.heap h39 [L, To] from hr39 ▸ hp)).2.2
              exact ⟨kb42 _ _ (by simpa using nLL9 _ _ e39 NN.2.1 (hrT p hp)) NN.1, NN.2⟩
          clear F41 N41 F40 N40 N39 hLa
          k_steps
          rename Fr _ _ _ _ => F9
          rename News _ _ _ _ => N9
          refine append_K (s := { s with heap := h42, gens := gens4, toks := tk42 }) F9 N9 (Upd.tail nDT (Upd.head hrT)) ?_ huz
          intro h43 F43 N43
          rw [show ∀ v : Value, us.toArray.push v = (us ++ [v]).toArray from fun v => by simp] at N43
          have C43 := C39.toldApp M F43 (keepBut_of (sk := [L, To]) F43 N43 (fun q hq => .tail _ (.tail _ (hr39 ▸ hq))) kst39) (nl := [(D, LCg.lst [])]) (fun p hp => by
            rw [List.mem_singleton.mp hp]
            exact ⟨(N43 _ (.head _)).1, nD39⟩) hus (d := .list []) (.list (vs := []) (List.mem_append_left _ (.head _)) .nil) (N43 _ (.tail _ (.head _))).1
          dsimp only
          exact ⟨rfl, _, gens4, _, _, rfl, hb42, F43, C43⟩
        rintro s' ⟨h44, gens4, tk44, nl7, rfl, hb44, F44, C44⟩
        refine wpAny_execs_nil ?_
        have itJ := (C44.it _ (.head _)).1
        refine ⟨rfl, h44, gens4, tk44, _, _, _, _, oJ30, rfl, hb44, F44, C44, fun p hp => List.mem_append_right _ (List.mem_append_right _ (hsub5 _ (hsub2 _ hp))), ?_, ?_, ⟨oJ30, itJ, hJ30'⟩, hj3, nJI⟩
        · intro d hd
          rcases List.mem_append.mp hd with hd | hd
          · rw [← hdat5] at hd
            rcases List.mem_append.mp hd with hd | hd
            · exact hok2 d hd
            · rw [List.mem_singleton.mp hd]; exact hdok
          · rw [List.mem_singleton.mp hd]; decide +kernel
        · rw [List.length_append, ← hdat5, List.length_append]
          simp only [List.length_cons, List.length_nil]
          omega
end Mine
end
-- Fin
section
local macro_rules | `(tactic| walk_at "mine no such step") => `(tactic| skip)
local macro_rules | `(tactic| walk_at "mine no such step") => `(tactic| skip)
local macro_rules | `(tactic| walk_at "mine no such step") => `(tactic| skip)
local macro_rules | `(tactic| walk_at "mine no such step") => `(tactic| skip)
local macro_rules | `(tactic| walk_at "mine no such step") => `(tactic| skip)
local macro_rules | `(tactic| walk_at "mine no such step") => `(tactic| skip)
local macro_rules | `(tactic| walk_at "mine no such step") => `(tactic| skip)
local macro_rules | `(tactic| walk_at "mine no such step") => `(tactic| skip)
local macro_rules | `(tactic| walk_at "mine no such step") => `(tactic| skip)
local macro_rules | `(tactic| walk_at "mine no such step") => `(tactic| skip)
local macro_rules | `(tactic| walk_at "mine no such step") => `(tactic| skip)
local macro_rules | `(tactic| walk_at "mine no such step") => `(tactic| skip)
local macro_rules | `(tactic| walk_at "mine no such step") => `(tactic| skip)
local macro_rules | `(tactic| walk_at "mine no such step") => `(tactic| skip)
local macro_rules | `(tactic| walk_at "mine no such step") => `(tactic| skip)
local macro_rules | `(tactic| walk_at "mine no such step") => `(tactic| skip)
local macro_rules | `(tactic| walk_at "mine no such step") => `(tactic| skip)
local macro_rules | `(tactic| walk_at "mine no such step") => `(tactic| skip)
local macro_rules | `(tactic| walk_at "mine no such step") => `(tactic| skip)
local macro_rules | `(tactic| walk_at "mine no such step") => `(tactic| skip)
local macro_rules | `(tactic| walk_at "mine no such step") => `(tactic| skip)
local macro_rules | `(tactic| walk_at "mine no such step") => `(tactic| skip)
local macro_rules | `(tactic| walk_at "mine no such step") => `(tactic| skip)
local macro_rules | `(tactic| walk_at "mine no such step") => `(tactic| skip)
local macro_rules | `(tactic| walk_at "mine no such step") => `(tactic| skip)
local macro_rules | `(tactic| walk_at "mine no such step") => `(tactic| skip)
local macro_rules | `(tactic| walk_at "mine no such step") => `(tactic| skip)
local macro_rules | `(tactic| walk_at "mine no such step") => `(tactic| skip)
local macro_rules | `(tactic| walk_at "mine no such step") => `(tactic| skip)
local macro_rules | `(tactic| walk_at "mine no such step") => `(tactic| skip)
local macro_rules | `(tactic| walk_at "mine no such step") => `(tactic| skip)
local macro_rules | `(tactic| walk_at "mine no such step") => `(tactic| skip)
local macro_rules | `(tactic| walk_at "mine no such step") => `(tactic| skip)
local macro_rules | `(tactic| walk_at "mine no such step") => `(tactic| skip)
local macro_rules | `(tactic| walk_at "mine no such step") => `(tactic| skip)
local macro_rules | `(tactic| walk_at "mine no such step") => `(tactic| skip)
local macro_rules | `(tactic| walk_at "mine no such step") => `(tactic| skip)
local macro_rules | `(tactic| walk_at "mine no such step") => `(tactic| skip)
local macro_rules | `(tactic| walk_at "mine no such step") => `(tactic| skip)
local macro_rules | `(tactic| walk_at "mine no such step") => `(tactic| skip)
open PySem PySem.W PyProof.Rows
set_option maxRecDepth 100000
set_option maxHeartbeats 8000000
namespace Mine
theorem fin0 : PySem.Challenge.rw_ez0287_01.Holds := hd (by
  k_fill
  intro w s₀ s₁ mg mb G Y fa o pm cd doc dV kV ho hd hcd hD hmg hg args vals as hpre hlay hrd hwl hlo
  have KX := kIn_of Y
  have X := (Ground.X G).1
  have V := (Ground.X G).2
  try w_nolog (first | (have GL := glob_more (Ground.glob G (by first | k_qdec | decide +kernel) (by first | k_qdec | decide +kernel)) V) | (have GL := glob_more (Ground.glob G (by decide +kernel)) V))
  refine Ground.open G ?_
  intro T B D TE TW
  try (refine guard_noD D (by decide +kernel) ?_; clear D)
  obtain ⟨_, _, M⟩ := bmod_of_top T
  have TA := at_of_top T
  try (obtain ⟨_, _, he, B0⟩ := based_of_top T rfl hmg ho hd; have he' : cd = _ := he; subst he'; clear he)
  have h362 := mg_of KX T.g (show nsIn _ mainGlobals (Str.ofString "law") = some (some (.ref 362)) by k_is)
  have hfa : fa = 362 := by
    have h2 : mg (Str.ofString "law") = some (.ref fa) := hmg
    rw [h362] at h2
    cases h2; rfl
  subst hfa
  clear h362 hmg
  wrow_args hpre hlay hrd hwl hlo
  all_goals (
    first | refine callC_kw (enter_call ?_) | refine enter_call ?_ | refine callC_kw (enter_callW ?_) | refine enter_callW ?_ | w_how
    refine law_spec KX T rfl rfl rfl (by show 1 + claimMargin < 500; decide) (by show 4 < 5000; decide) (by assumption) (by assumption) (by omega) (by rw [hg]; intro x hx; simp at hx) ?_
    intro h' gens' tk' k hb
    refine ⟨.inl ⟨_, .bool true, [], rfl, raisesW_false ?_, .bool true, ?_, unshared_nil⟩, .of_keep k, rfl, hb⟩
    · wrow_none_raised
    · wrow_post))
end Mine
end
set_option maxRecDepth 100000 in
set_option maxHeartbeats 8000000 in
theorem PySem.Challenge.cw_ez0287_01_holds : PySem.Challenge.rw_ez0287_01.Holds := by
  exact Mine.fin0
