import PyProof.Rows.All
import Wide.All
import OpenK.AllK
import Wide.FinOn
import Lean
import PySem.Challenge.RW_kl0209_01
set_option Elab.async false
set_option compiler.extract_closed false
set_option bootstrap.genMatcherCode false
set_option genSizeOf false
section
open PySem PySem.W PyProof.Rows
set_option Elab.async false
set_option maxRecDepth 100000
set_option maxHeartbeats 8000000
namespace Mine
section
local macro_rules | `(tactic| o_head $_) => `(tactic| skip)
theorem top0 : False → PySem.Challenge.rw_kl0209_01.row.Holds := by
  intro hf
  k_head
  exact hf.elim
end
noncomputable abbrev PG := PySem.Challenge.rw_kl0209_01.row.prog
noncomputable abbrev KP := top0.heap_1
noncomputable abbrev KK (w : World) : Frag := top0.heap_1 w.params
noncomputable def PP : Program := { PG with main := { PG.main with body := ((((PG.main.body.eraseIdx 22).eraseIdx 18).eraseIdx 12).eraseIdx 11).eraseIdx 2 } }
noncomputable abbrev LL := looseW PP [Str.ofString "length_hint", Str.ofString "_name_disallowed_re", Str.ofString "_value_disallowed_re"]
end Mine
end

section
open PySem
set_option maxRecDepth 100000
set_option maxHeartbeats 1000000
set_option linter.all false
namespace Mine
theorem kind_hasattr : builtinKind "hasattr" = none := by decide +kernel
theorem plain_hasattr : plainId "hasattr" = true := by decide +kernel
theorem entry_hasattr : entryFor table "hasattr" = some Builtin.«hasattr» := entryFor_of_tree (by kernel_rfl)
theorem args_hasattr_2 (a b : Value) : argsOk "hasattr" ⟨[a, b], []⟩ := by unfold argsOk; kernel_rfl
theorem ty_str_getitem : typeOf (.builtin "str.__getitem__") = pure (.type "wrapper_descriptor") := by show builtinType _ = _; rw [builtinType_eq_fast]; kernel_rfl
theorem slot_wd_get : Slot "wrapper_descriptor" "__get__" "wrapper_descriptor.__get__" :=
  .of (owner := "wrapper_descriptor") (n := "__get__") (by rw [typeLookup_type, builtinLookup_eq_fast]; kernel_rfl) (by decide +kernel) (by decide +kernel) (by decide +kernel)
    (by first | exact .inl (by decide +kernel) | exact .inr (by decide +kernel)) (by rw [isSubtype_type]; kernel_rfl)
theorem entry_wd_get : entryFor table "wrapper_descriptor.__get__" = some Builtin.«wrapper_descriptor.__get__» := entryFor_of_tree (by kernel_rfl)
section
variable {prog : Program} {w : World} {A : Around} {E : Value → Shared → Prop} {h : Heap} {g : Array GenState} {d : Drawn} {t : Nat} {os : OsState} {x : Str} {u : Tok}
theorem args_wd_get (a b c : Value) : argsOk "wrapper_descriptor.__get__" ⟨[a, b, c], []⟩ := by unfold argsOk; kernel_rfl
theorem lk_wd_set : typeLookup (.type "wrapper_descriptor") "__set__" = pure none := by rw [typeLookup_type, builtinLookup_eq_fast]; kernel_rfl
theorem lk_wd_delete : typeLookup (.type "wrapper_descriptor") "__delete__" = pure none := by rw [typeLookup_type, builtinLookup_eq_fast]; kernel_rfl
theorem owner_str_getitem : (".".intercalate ("str.__getitem__".cutAt '.').dropLast) = "str" := by
  kernel_rfl
theorem sub_str_str : isSubtype (.type "str") (.type (".".intercalate ("str.__getitem__".cutAt '.').dropLast)) = pure true := by
  rw [owner_str_getitem, isSubtype_type]; kernel_rfl
theorem wd_get_str {R : Result → Shared → Prop} (hq : ∀ o, R (.ok (.ret (.ref h.objs.size))) ⟨h.push o, g, d, t, os⟩) :
    codeAny (model prog w) A (.call (.builtin "wrapper_descriptor.__get__") ⟨[.builtin "str.__getitem__", .str x u, .type "str"], []⟩) R ⟨h, g, d, t, os⟩ := by
  have hT : (⟨h, g, d, t, os⟩ : Shared).TypeIs (.str x u) "str" := rfl
  have hT5 : (⟨h, g, d, t, os⟩ : Shared).TypeIs (.builtin "str.__getitem__") "wrapper_descriptor" := ty_str_getitem
  have f8 := sub_str_str
  refine codeAny_call_builtin slot_wd_get.plain entry_wd_get (slot_wd_get.check _ _ _ _ _ _ _ _ hT5 (args_wd_get _ _ _) ?_)
  repeat (any_goals (first | assumption | wp_step))
  exact hq _
theorem getitem_entry {tk : Tok} {Q : Fin → Shared → Prop} (hq : ∀ o, Q (.done (.ret (.ref h.objs.size))) ⟨h.push o, g, d, t, os⟩) :
    wpAny (model prog w) A (Builtin.«object.__getattribute__» ⟨[.str x u, .str "__getitem__" tk], []⟩) Q E ⟨h, g, d, t, os⟩ := by
  have hT : (⟨h, g, d, t, os⟩ : Shared).TypeIs (.str x u) "str" := rfl
  have hT5 : (⟨h, g, d, t, os⟩ : Shared).TypeIs (.builtin "str.__getitem__") "wrapper_descriptor" := ty_str_getitem
  have f4 := F.slot_str_getitem.lookup
  have f5 := ty_str_getitem
  have f6 := slot_wd_get.lookup
  have f7 := lk_wd_set
  have f8 := lk_wd_delete
  repeat (any_goals (first | assumption | wp_step))
  refine wd_get_str fun o => ?_
  repeat (any_goals (first | exact hq _ | assumption | wp_step))
theorem hasattr_str {tk : Tok} {Q : Value → Shared → Prop} (hq : ∀ o, Q (.bool true) ⟨h.push o, g, d, t, os⟩) :
    wpAny (model prog w) A (call (.builtin "hasattr") [.str x u, .str "__getitem__" tk]) Q E ⟨h, g, d, t, os⟩ := by
  refine Calls.call_function_entry kind_hasattr plain_hasattr entry_hasattr (args_hasattr_2 _ _) ?_
  have hT : (⟨h, g, d, t, os⟩ : Shared).TypeIs (.str x u) "str" := rfl
  have f2 := F.slot_str_getattribute.lookup
  have f3 := F.slot_str_getattribute.bind (.str x u)
  have f4 := F.slot_str_getitem.lookup
  unfold Builtin.«hasattr»
  refine wpAny_bind (wpAny_of_eq (a := [.str x u, .str "__getitem__" tk]) (by first | rfl | kernel_rfl) ?_)
  dsimp only
  refine wpAny_bind (wpAny_of_eq (a := ()) (by first | rfl | kernel_rfl) ?_)
  repeat (any_goals (first | assumption | wp_step))
  refine codeAny_call_builtin F.slot_str_getattribute.plain F.entry_object_getattribute (F.slot_str_getattribute.check _ _ _ _ _ _ _ _ (show (⟨h, g, d, t, os⟩ : Shared).TypeIs (.str x u) "str" from rfl) (F.args_object_getattribute_2 _ _) (getitem_entry fun o => ?_))
  repeat (any_goals (first | exact hq _ | assumption | wp_step))
  exact ⟨_, rfl, hq _⟩
end
end Mine
end

section
open PySem PySem.W PyProof.Rows PySem.Calls
set_option Elab.async false
set_option linter.all false
set_option maxRecDepth 100000
set_option maxHeartbeats 1000000
namespace Mine
theorem e02 {A0 A1 : Prop} {G : Prop} (h : A0 ∧ A1) (f : A0 → A1 → G) : G := f h.1 h.2
theorem e03 {A0 A1 A2 : Prop} {G : Prop} (h : A0 ∧ A1 ∧ A2) (f : A0 → A1 → A2 → G) : G := f h.1 h.2.1 h.2.2
theorem e04 {A0 A1 A2 A3 : Prop} {G : Prop} (h : A0 ∧ A1 ∧ A2 ∧ A3) (f : A0 → A1 → A2 → A3 → G) : G := f h.1 h.2.1 h.2.2.1 h.2.2.2
theorem e05 {A0 A1 A2 A3 A4 : Prop} {G : Prop} (h : A0 ∧ A1 ∧ A2 ∧ A3 ∧ A4) (f : A0 → A1 → A2 → A3 → A4 → G) : G := f h.1 h.2.1 h.2.2.1 h.2.2.2.1 h.2.2.2.2
theorem e06 {A0 A1 A2 A3 A4 A5 : Prop} {G : Prop} (h : A0 ∧ A1 ∧ A2 ∧ A3 ∧ A4 ∧ A5) (f : A0 → A1 → A2 → A3 → A4 → A5 → G) : G := f h.1 h.2.1 h.2.2.1 h.2.2.2.1 h.2.2.2.2.1 h.2.2.2.2.2
theorem e12 {α0 : Sort _} {A0 A1 : α0 → Prop} {G : Prop} (h : ∃ x0, A0 x0 ∧ A1 x0) (f : ∀ x0, A0 x0 → A1 x0 → G) : G := h.elim fun x0 h => f x0 h.1 h.2
theorem e13 {α0 : Sort _} {A0 A1 A2 : α0 → Prop} {G : Prop} (h : ∃ x0, A0 x0 ∧ A1 x0 ∧ A2 x0) (f : ∀ x0, A0 x0 → A1 x0 → A2 x0 → G) : G := h.elim fun x0 h => f x0 h.1 h.2.1 h.2.2
theorem e14 {α0 : Sort _} {A0 A1 A2 A3 : α0 → Prop} {G : Prop} (h : ∃ x0, A0 x0 ∧ A1 x0 ∧ A2 x0 ∧ A3 x0) (f : ∀ x0, A0 x0 → A1 x0 → A2 x0 → A3 x0 → G) : G := h.elim fun x0 h => f x0 h.1 h.2.1 h.2.2.1 h.2.2.2
theorem e15 {α0 : Sort _} {A0 A1 A2 A3 A4 : α0 → Prop} {G : Prop} (h : ∃ x0, A0 x0 ∧ A1 x0 ∧ A2 x0 ∧ A3 x0 ∧ A4 x0) (f : ∀ x0, A0 x0 → A1 x0 → A2 x0 → A3 x0 → A4 x0 → G) : G := h.elim fun x0 h => f x0 h.1 h.2.1 h.2.2.1 h.2.2.2.1 h.2.2.2.2
theorem e16 {α0 : Sort _} {A0 A1 A2 A3 A4 A5 : α0 → Prop} {G : Prop} (h : ∃ x0, A0 x0 ∧ A1 x0 ∧ A2 x0 ∧ A3 x0 ∧ A4 x0 ∧ A5 x0) (f : ∀ x0, A0 x0 → A1 x0 → A2 x0 → A3 x0 → A4 x0 → A5 x0 → G) : G := h.elim fun x0 h => f x0 h.1 h.2.1 h.2.2.1 h.2.2.2.1 h.2.2.2.2.1 h.2.2.2.2.2
theorem e21 {α0 : Sort _} {α1 : Sort _} {A0 : α0 → α1 → Prop} {G : Prop} (h : ∃ x0 x1, A0 x0 x1) (f : ∀ x0 x1, A0 x0 x1 → G) : G := h.elim fun x0 h => h.elim fun x1 h => f x0 x1 h
theorem e22 {α0 : Sort _} {α1 : Sort _} {A0 A1 : α0 → α1 → Prop} {G : Prop} (h : ∃ x0 x1, A0 x0 x1 ∧ A1 x0 x1) (f : ∀ x0 x1, A0 x0 x1 → A1 x0 x1 → G) : G := h.elim fun x0 h => h.elim fun x1 h => f x0 x1 h.1 h.2
theorem e23 {α0 : Sort _} {α1 : Sort _} {A0 A1 A2 : α0 → α1 → Prop} {G : Prop} (h : ∃ x0 x1, A0 x0 x1 ∧ A1 x0 x1 ∧ A2 x0 x1) (f : ∀ x0 x1, A0 x0 x1 → A1 x0 x1 → A2 x0 x1 → G) : G := h.elim fun x0 h => h.elim fun x1 h => f x0 x1 h.1 h.2.1 h.2.2
theorem e24 {α0 : Sort _} {α1 : Sort _} {A0 A1 A2 A3 : α0 → α1 → Prop} {G : Prop} (h : ∃ x0 x1, A0 x0 x1 ∧ A1 x0 x1 ∧ A2 x0 x1 ∧ A3 x0 x1) (f : ∀ x0 x1, A0 x0 x1 → A1 x0 x1 → A2 x0 x1 → A3 x0 x1 → G) : G := h.elim fun x0 h => h.elim fun x1 h => f x0 x1 h.1 h.2.1 h.2.2.1 h.2.2.2
theorem e25 {α0 : Sort _} {α1 : Sort _} {A0 A1 A2 A3 A4 : α0 → α1 → Prop} {G : Prop} (h : ∃ x0 x1, A0 x0 x1 ∧ A1 x0 x1 ∧ A2 x0 x1 ∧ A3 x0 x1 ∧ A4 x0 x1) (f : ∀ x0 x1, A0 x0 x1 → A1 x0 x1 → A2 x0 x1 → A3 x0 x1 → A4 x0 x1 → G) : G := h.elim fun x0 h => h.elim fun x1 h => f x0 x1 h.1 h.2.1 h.2.2.1 h.2.2.2.1 h.2.2.2.2
theorem e26 {α0 : Sort _} {α1 : Sort _} {A0 A1 A2 A3 A4 A5 : α0 → α1 → Prop} {G : Prop} (h : ∃ x0 x1, A0 x0 x1 ∧ A1 x0 x1 ∧ A2 x0 x1 ∧ A3 x0 x1 ∧ A4 x0 x1 ∧ A5 x0 x1) (f : ∀ x0 x1, A0 x0 x1 → A1 x0 x1 → A2 x0 x1 → A3 x0 x1 → A4 x0 x1 → A5 x0 x1 → G) : G := h.elim fun x0 h => h.elim fun x1 h => f x0 x1 h.1 h.2.1 h.2.2.1 h.2.2.2.1 h.2.2.2.2.1 h.2.2.2.2.2
theorem e31 {α0 : Sort _} {α1 : Sort _} {α2 : Sort _} {A0 : α0 → α1 → α2 → Prop} {G : Prop} (h : ∃ x0 x1 x2, A0 x0 x1 x2) (f : ∀ x0 x1 x2, A0 x0 x1 x2 → G) : G := h.elim fun x0 h => h.elim fun x1 h => h.elim fun x2 h => f x0 x1 x2 h
theorem e32 {α0 : Sort _} {α1 : Sort _} {α2 : Sort _} {A0 A1 : α0 → α1 → α2 → Prop} {G : Prop} (h : ∃ x0 x1 x2, A0 x0 x1 x2 ∧ A1 x0 x1 x2) (f : ∀ x0 x1 x2, A0 x0 x1 x2 → A1 x0 x1 x2 → G) : G := h.elim fun x0 h => h.elim fun x1 h => h.elim fun x2 h => f x0 x1 x2 h.1 h.2
theorem e33 {α0 : Sort _} {α1 : Sort _} {α2 : Sort _} {A0 A1 A2 : α0 → α1 → α2 → Prop} {G : Prop} (h : ∃ x0 x1 x2, A0 x0 x1 x2 ∧ A1 x0 x1 x2 ∧ A2 x0 x1 x2) (f : ∀ x0 x1 x2, A0 x0 x1 x2 → A1 x0 x1 x2 → A2 x0 x1 x2 → G) : G := h.elim fun x0 h => h.elim fun x1 h => h.elim fun x2 h => f x0 x1 x2 h.1 h.2.1 h.2.2
theorem e34 {α0 : Sort _} {α1 : Sort _} {α2 : Sort _} {A0 A1 A2 A3 : α0 → α1 → α2 → Prop} {G : Prop} (h : ∃ x0 x1 x2, A0 x0 x1 x2 ∧ A1 x0 x1 x2 ∧ A2 x0 x1 x2 ∧ A3 x0 x1 x2) (f : ∀ x0 x1 x2, A0 x0 x1 x2 → A1 x0 x1 x2 → A2 x0 x1 x2 → A3 x0 x1 x2 → G) : G := h.elim fun x0 h => h.elim fun x1 h => h.elim fun x2 h => f x0 x1 x2 h.1 h.2.1 h.2.2.1 h.2.2.2
theorem e35 {α0 : Sort _} {α1 : Sort _} {α2 : Sort _} {A0 A1 A2 A3 A4 : α0 → α1 → α2 → Prop} {G : Prop} (h : ∃ x0 x1 x2, A0 x0 x1 x2 ∧ A1 x0 x1 x2 ∧ A2 x0 x1 x2 ∧ A3 x0 x1 x2 ∧ A4 x0 x1 x2) (f : ∀ x0 x1 x2, A0 x0 x1 x2 → A1 x0 x1 x2 → A2 x0 x1 x2 → A3 x0 x1 x2 → A4 x0 x1 x2 → G) : G := h.elim fun x0 h => h.elim fun x1 h => h.elim fun x2 h => f x0 x1 x2 h.1 h.2.1 h.2.2.1 h.2.2.2.1 h.2.2.2.2
theorem e36 {α0 : Sort _} {α1 : Sort _} {α2 : Sort _} {A0 A1 A2 A3 A4 A5 : α0 → α1 → α2 → Prop} {G : Prop} (h : ∃ x0 x1 x2, A0 x0 x1 x2 ∧ A1 x0 x1 x2 ∧ A2 x0 x1 x2 ∧ A3 x0 x1 x2 ∧ A4 x0 x1 x2 ∧ A5 x0 x1 x2) (f : ∀ x0 x1 x2, A0 x0 x1 x2 → A1 x0 x1 x2 → A2 x0 x1 x2 → A3 x0 x1 x2 → A4 x0 x1 x2 → A5 x0 x1 x2 → G) : G := h.elim fun x0 h => h.elim fun x1 h => h.elim fun x2 h => f x0 x1 x2 h.1 h.2.1 h.2.2.1 h.2.2.2.1 h.2.2.2.2.1 h.2.2.2.2.2
theorem e41 {α0 : Sort _} {α1 : Sort _} {α2 : Sort _} {α3 : Sort _} {A0 : α0 → α1 → α2 → α3 → Prop} {G : Prop} (h : ∃ x0 x1 x2 x3, A0 x0 x1 x2 x3) (f : ∀ x0 x1 x2 x3, A0 x0 x1 x2 x3 → G) : G := h.elim fun x0 h => h.elim fun x1 h => h.elim fun x2 h => h.elim fun x3 h => f x0 x1 x2 x3 h
theorem e42 {α0 : Sort _} {α1 : Sort _} {α2 : Sort _} {α3 : Sort _} {A0 A1 : α0 → α1 → α2 → α3 → Prop} {G : Prop} (h : ∃ x0 x1 x2 x3, A0 x0 x1 x2 x3 ∧ A1 x0 x1 x2 x3) (f : ∀ x0 x1 x2 x3, A0 x0 x1 x2 x3 → A1 x0 x1 x2 x3 → G) : G := h.elim fun x0 h => h.elim fun x1 h => h.elim fun x2 h => h.elim fun x3 h => f x0 x1 x2 x3 h.1 h.2
theorem e43 {α0 : Sort _} {α1 : Sort _} {α2 : Sort _} {α3 : Sort _} {A0 A1 A2 : α0 → α1 → α2 → α3 → Prop} {G : Prop} (h : ∃ x0 x1 x2 x3, A0 x0 x1 x2 x3 ∧ A1 x0 x1 x2 x3 ∧ A2 x0 x1 x2 x3) (f : ∀ x0 x1 x2 x3, A0 x0 x1 x2 x3 → A1 x0 x1 x2 x3 → A2 x0 x1 x2 x3 → G) : G := h.elim fun x0 h => h.elim fun x1 h => h.elim fun x2 h => h.elim fun x3 h => f x0 x1 x2 x3 h.1 h.2.1 h.2.2
theorem e44 {α0 : Sort _} {α1 : Sort _} {α2 : Sort _} {α3 : Sort _} {A0 A1 A2 A3 : α0 → α1 → α2 → α3 → Prop} {G : Prop} (h : ∃ x0 x1 x2 x3, A0 x0 x1 x2 x3 ∧ A1 x0 x1 x2 x3 ∧ A2 x0 x1 x2 x3 ∧ A3 x0 x1 x2 x3) (f : ∀ x0 x1 x2 x3, A0 x0 x1 x2 x3 → A1 x0 x1 x2 x3 → A2 x0 x1 x2 x3 → A3 x0 x1 x2 x3 → G) : G := h.elim fun x0 h => h.elim fun x1 h => h.elim fun x2 h => h.elim fun x3 h => f x0 x1 x2 x3 h.1 h.2.1 h.2.2.1 h.2.2.2
theorem e45 {α0 : Sort _} {α1 : Sort _} {α2 : Sort _} {α3 : Sort _} {A0 A1 A2 A3 A4 : α0 → α1 → α2 → α3 → Prop} {G : Prop} (h : ∃ x0 x1 x2 x3, A0 x0 x1 x2 x3 ∧ A1 x0 x1 x2 x3 ∧ A2 x0 x1 x2 x3 ∧ A3 x0 x1 x2 x3 ∧ A4 x0 x1 x2 x3) (f : ∀ x0 x1 x2 x3, A0 x0 x1 x2 x3 → A1 x0 x1 x2 x3 → A2 x0 x1 x2 x3 → A3 x0 x1 x2 x3 → A4 x0 x1 x2 x3 → G) : G := h.elim fun x0 h => h.elim fun x1 h => h.elim fun x2 h => h.elim fun x3 h => f x0 x1 x2 x3 h.1 h.2.1 h.2.2.1 h.2.2.2.1 h.2.2.2.2
theorem e46 {α0 : Sort _} {α1 : Sort _} {α2 : Sort _} {α3 : Sort _} {A0 A1 A2 A3 A4 A5 : α0 → α1 → α2 → α3 → Prop} {G : Prop} (h : ∃ x0 x1 x2 x3, A0 x0 x1 x2 x3 ∧ A1 x0 x1 x2 x3 ∧ A2 x0 x1 x2 x3 ∧ A3 x0 x1 x2 x3 ∧ A4 x0 x1 x2 x3 ∧ A5 x0 x1 x2 x3) (f : ∀ x0 x1 x2 x3, A0 x0 x1 x2 x3 → A1 x0 x1 x2 x3 → A2 x0 x1 x2 x3 → A3 x0 x1 x2 x3 → A4 x0 x1 x2 x3 → A5 x0 x1 x2 x3 → G) : G := h.elim fun x0 h => h.elim fun x1 h => h.elim fun x2 h => h.elim fun x3 h => f x0 x1 x2 x3 h.1 h.2.1 h.2.2.1 h.2.2.2.1 h.2.2.2.2.1 h.2.2.2.2.2
theorem div5 {n : Nat} (h : ¬n < 5) : ((n : Int) - 5).fdiv 5 = (((n - 5) / 5 : Nat) : Int) := by
  rw [Int.fdiv_eq_ediv_of_nonneg _ (by lia)]; lia
theorem mod5 {n : Nat} (h : ¬n < 5) : ((n : Int) - 5).fmod 5 = (((n - 5) % 5 : Nat) : Int) := by
  rw [Int.fmod_eq_emod_of_nonneg _ (by lia)]; lia
theorem and3 {A B C : Prop} (a : A) (b : B) (d : C) : A ∧ B ∧ C := ⟨a, b, d⟩
theorem len1 {α : Type} {vs : List α} (h : vs.length = 1) : ∃ a, vs = [a] := List.length_eq_one_iff.mp h
theorem len2 {α : Type} {vs : List α} (h : vs.length = 2) : ∃ a b, vs = [a, b] := by
  cases vs with
  | nil => cases h
  | cons a l => obtain ⟨b, rfl⟩ := len1 (by simpa using h : l.length = 1); exact ⟨a, b, rfl⟩
theorem len3 {α : Type} {vs : List α} (h : vs.length = 3) : ∃ a b d, vs = [a, b, d] := by
  cases vs with
  | nil => cases h
  | cons a l => obtain ⟨b, d, rfl⟩ := len2 (by simpa using h : l.length = 2); exact ⟨a, b, d, rfl⟩

inductive V where
  | none | bool (b : Bool) | intP (i : Int) (r : Tok → Prop) | strP (s : Str) (r : Tok → Prop)
  | tup (xs : List V) | lst (xs : List V) | lstC (xs : List Int) | obj (i : Nat) | con (v : Value)

noncomputable abbrev V.int (i : Int) : V := .intP i fun _ => True
noncomputable abbrev V.str (s : Str) : V := .strP s fun _ => True

noncomputable abbrev Lg := List (Addr × Obj)
noncomputable abbrev tupO (vs : List Value) (n : Nat) : Obj := { cls := .type "tuple", data := .seq vs.toArray n }
noncomputable abbrev lstO (vs : List Value) (n : Nat) : Obj := { cls := .type "list", data := .seq vs.toArray n }

mutual
inductive VR (fz : Lg) (ρ : List Addr) : Value → V → Prop
  | none : VR fz ρ .none .none
  | bool (b : Bool) : VR fz ρ (.bool b) (.bool b)
  | int (i : Int) (t : Tok) {r : Tok → Prop} : r t → VR fz ρ (.int i t) (.intP i r)
  | str (s : Str) (t : Tok) {r : Tok → Prop} : r t → VR fz ρ (.str s t) (.strP s r)
  | tup {a : Addr} {vs : List Value} {n : Nat} {xs : List V} : (a, tupO vs n) ∈ fz → VRs fz ρ vs xs → VR fz ρ (.ref a) (.tup xs)
  | lst {a : Addr} {vs : List Value} {n : Nat} {xs : List V} : (a, lstO vs n) ∈ fz → VRs fz ρ vs xs → VR fz ρ (.ref a) (.lst xs)
  | lstC {a : Addr} {t₀ n : Nat} {xs : List Int} : (a, lstO (xs.map fun v => Value.int v (t₀ + v.toNat)) n) ∈ fz → 1 ≤ t₀ → VR fz ρ (.ref a) (.lstC xs)
  | obj {i : Nat} {a : Addr} : ρ[i]? = some a → VR fz ρ (.ref a) (.obj i)
  | con (v : Value) : VR fz ρ v (.con v)
inductive VRs (fz : Lg) (ρ : List Addr) : List Value → List V → Prop
  | nil : VRs fz ρ [] []
  | cons {v : Value} {x : V} {vs : List Value} {xs : List V} : VR fz ρ v x → VRs fz ρ vs xs → VRs fz ρ (v :: vs) (x :: xs)
end

structure Ext (fz fz' : Lg) (ρ ρ' : List Addr) : Prop where
  sub : ∀ p ∈ fz, p ∈ fz'
  pre : ∀ (i : Nat) (a : Addr), ρ[i]? = some a → ρ'[i]? = some a
theorem Ext.refl {fz : Lg} {ρ : List Addr} : Ext fz fz ρ ρ := ⟨fun _ h => h, fun _ _ h => h⟩
theorem Ext.trans {f1 f2 f3 : Lg} {r1 r2 r3 : List Addr} (x : Ext f1 f2 r1 r2) (y : Ext f2 f3 r2 r3) : Ext f1 f3 r1 r3 :=
  ⟨fun p h => y.sub p (x.sub p h), fun i a h => y.pre i a (x.pre i a h)⟩
theorem Ext.cons {fz : Lg} {ρ : List Addr} {p : Addr × Obj} : Ext fz (p :: fz) ρ ρ := ⟨fun _ h => .tail _ h, fun _ _ h => h⟩
theorem Ext.snoc {fz : Lg} {ρ : List Addr} {a : Addr} : Ext fz fz ρ (ρ ++ [a]) := ⟨fun _ h => h, fun i b h => by
  have : i < ρ.length := by
    rcases Nat.lt_or_ge i ρ.length with q | q
    · exact q
    · rw [List.getElem?_eq_none q] at h; cases h
  rw [List.getElem?_append_left this]; exact h⟩

theorem sn {α : Type _} {a : α} {P : Prop} (h : some a = none) : P := (by cases (h))
theorem ns {α : Type _} {a : α} {P : Prop} (h : none = some a) : P := (by cases (h))
theorem tf {P : Prop} (h : true = false) : P := (by cases (h))
theorem ft {P : Prop} (h : false = true) : P := (by cases (h))
theorem nc {α : Type _} {a : α} {l : List α} {P : Prop} (h : [] = a :: l) : P := (by cases (h))
theorem cn {α : Type _} {a : α} {l : List α} {P : Prop} (h : a :: l = []) : P := (by cases (h))
theorem VRs.nilE {fz : Lg} {ρ : List Addr} {motive : ∀ vs, VRs fz ρ vs [] → Prop} (k : motive [] .nil) {vs} (h : VRs fz ρ vs []) : motive vs h := by
  cases (h) with | nil => exact k
theorem VRs.consE {fz : Lg} {ρ : List Addr} {x : V} {xs : List V} {motive : ∀ vs, VRs fz ρ vs (x :: xs) → Prop} (k : ∀ {v vs} (a : VR fz ρ v x) (b : VRs fz ρ vs xs), motive (v :: vs) (.cons a b)) {vs} (h : VRs fz ρ vs (x :: xs)) : motive vs h := by
  cases (h) with | cons a b => exact k a b
theorem VR.lstE {fz : Lg} {ρ : List Addr} {xs : List V} {motive : ∀ v, VR fz ρ v (.lst xs) → Prop} (k : ∀ {a vs n} (m : (a, lstO vs n) ∈ fz) (r : VRs fz ρ vs xs), motive (.ref a) (.lst m r)) {v} (h : VR fz ρ v (.lst xs)) : motive v h := by
  cases (h) with | lst m r => exact k m r
theorem VR.tupE {fz : Lg} {ρ : List Addr} {xs : List V} {motive : ∀ v, VR fz ρ v (.tup xs) → Prop} (k : ∀ {a vs n} (m : (a, tupO vs n) ∈ fz) (r : VRs fz ρ vs xs), motive (.ref a) (.tup m r)) {v} (h : VR fz ρ v (.tup xs)) : motive v h := by
  cases (h) with | tup m r => exact k m r
theorem VR.objE {fz : Lg} {ρ : List Addr} {i : Nat} {motive : ∀ v, VR fz ρ v (.obj i) → Prop} (k : ∀ {a} (m : ρ[i]? = some a), motive (.ref a) (.obj m)) {v} (h : VR fz ρ v (.obj i)) : motive v h := by
  cases (h) with | obj m => exact k m
theorem VR.intE {fz : Lg} {ρ : List Addr} {i : Int} {r : Tok → Prop} {motive : ∀ v, VR fz ρ v (.intP i r) → Prop} (k : ∀ (t) (m : r t), motive (.int i t) (.int i t m)) {v} (h : VR fz ρ v (.intP i r)) : motive v h := by
  cases (h) with | int i t m => exact k t m
theorem VR.strE {fz : Lg} {ρ : List Addr} {i : Str} {r : Tok → Prop} {motive : ∀ v, VR fz ρ v (.strP i r) → Prop} (k : ∀ (t) (m : r t), motive (.str i t) (.str i t m)) {v} (h : VR fz ρ v (.strP i r)) : motive v h := by
  cases (h) with | str i t m => exact k t m
theorem VRs.ind {fz : Lg} {ρ : List Addr} {P : List Value → List V → Prop} (n : P [] []) (k : ∀ {v x vs xs}, VR fz ρ v x → VRs fz ρ vs xs → P vs xs → P (v :: vs) (x :: xs)) {vs xs} (h : VRs fz ρ vs xs) : P vs xs :=
  VRs.rec (motive_1 := fun _ _ _ => True) (motive_2 := fun vs xs _ => P vs xs) trivial (fun _ => trivial) (fun _ _ _ _ => trivial) (fun _ _ _ _ => trivial) (fun _ _ _ => trivial) (fun _ _ _ => trivial) (fun _ _ => trivial) (fun _ => trivial) (fun _ => trivial) n (fun a b _ ih => k a b ih) h
theorem VR.ext {fz fz' : Lg} {ρ ρ' : List Addr} (E : Ext fz fz' ρ ρ') {v : Value} {x : V} (h : VR fz ρ v x) : VR fz' ρ' v x :=
  VR.rec (motive_1 := fun v x _ => VR fz' ρ' v x) (motive_2 := fun vs xs _ => VRs fz' ρ' vs xs) .none .bool .int .str (fun m _ => .tup (E.sub _ m)) (fun m _ => .lst (E.sub _ m)) (fun m => .lstC (E.sub _ m)) (fun m => .obj (E.pre _ _ m)) .con .nil (fun _ _ => .cons) h
theorem VRs.ext {fz fz' : Lg} {ρ ρ' : List Addr} (E : Ext fz fz' ρ ρ') {vs : List Value} {xs : List V} (h : VRs fz ρ vs xs) : VRs fz' ρ' vs xs :=
  VRs.ind (P := fun vs xs => VRs fz' ρ' vs xs) .nil (fun a _ ih => .cons (a.ext E) ih) h
theorem VRs.length {fz : Lg} {ρ : List Addr} {vs : List Value} {xs : List V} (h : VRs fz ρ vs xs) : vs.length = xs.length :=
  VRs.ind (P := fun vs xs => vs.length = xs.length) rfl (fun _ _ ih => congrArg (· + 1) ih) h
theorem VRs.get {fz : Lg} {ρ : List Addr} {vs : List Value} {xs : List V} (h : VRs fz ρ vs xs) : ∀ {i : Nat} {x : V}, xs[i]? = some x → ∃ v, vs[i]? = some v ∧ VR fz ρ v x :=
  VRs.ind (P := fun vs xs => ∀ {i : Nat} {x : V}, xs[i]? = some x → ∃ v, vs[i]? = some v ∧ VR fz ρ v x) (fun e => sn e.symm) (fun {v _ _ _} a _ ih {i _} e => by
    cases i with
    | zero => exact ⟨v, rfl, Option.some.inj e ▸ a⟩
    | succ i => exact ih (i := i) e) h
theorem VRs.append {fz : Lg} {ρ : List Addr} {vs ws : List Value} {xs ys : List V} (h : VRs fz ρ vs xs) (q : VRs fz ρ ws ys) : VRs fz ρ (vs ++ ws) (xs ++ ys) :=
  VRs.ind (P := fun vs xs => VRs fz ρ (vs ++ ws) (xs ++ ys)) q (fun a _ ih => .cons a ih) h
theorem VRs.split {fz : Lg} {ρ : List Addr} {xs ys : List V} : ∀ {vs : List Value}, VRs fz ρ vs (xs ++ ys) → ∃ v1 v2, vs = v1 ++ v2 ∧ VRs fz ρ v1 xs ∧ VRs fz ρ v2 ys := by
  induction xs with
  | nil => exact fun h => ⟨[], _, rfl, .nil, h⟩
  | cons x xs ih => exact fun h => VRs.consE (motive := fun vs _ => ∃ v1 v2, vs = v1 ++ v2 ∧ VRs fz ρ v1 (x :: xs) ∧ VRs fz ρ v2 ys) (fun {v _} a b => e23 (ih b) fun v1 v2 e p q => ⟨v :: v1, v2, congrArg (v :: ·) e, .cons a p, q⟩) h
theorem VRs.drop {fz : Lg} {ρ : List Addr} (n : Nat) : ∀ {vs : List Value} {xs : List V}, VRs fz ρ vs xs → VRs fz ρ (vs.drop n) (xs.drop n) := by
  induction n with
  | zero => exact fun h => h
  | succ n ih => exact fun h => VRs.ind (P := fun vs xs => VRs fz ρ (vs.drop (n + 1)) (xs.drop (n + 1))) .nil (fun _ b _ => ih b) h

inductive MO where
  | list (xs : List V) | dict (es : List (Int × V)) | inst (j : Nat) | idict (x : Option V)

noncomputable abbrev hdrO (dx : Addr) : Obj := instObj 286 dx
noncomputable def DictR (w : World) (fz : Lg) (ρ : List Addr) (o : Obj) (es : List (Int × V)) : Prop :=
  ∃ (kvs : List (Int × Value)) (des : Array DictEntry), o.ExactDict ∧ o.data = .dict des es.length ∧ KeysOf (intKind PySem.Challenge.rw_kl0209_01.row.prog w) des ∧ Pairs (intKind PySem.Challenge.rw_kl0209_01.row.prog w) des.toList kvs ∧ (kvs.map (·.1)).Nodup ∧
    kvs.map (·.1) = es.map (·.1) ∧ VRs fz ρ (kvs.map (·.2)) (es.map (·.2))
inductive ObjR (w : World) (fz : Lg) (ρ : List Addr) : Obj → MO → Prop
  | list {vs : List Value} {n : Nat} {xs : List V} : VRs fz ρ vs xs → ObjR w fz ρ (lstO vs n) (.list xs)
  | dict {o : Obj} {es : List (Int × V)} : DictR w fz ρ o es → ObjR w fz ρ o (.dict es)
  | inst {j : Nat} {dx : Addr} : ρ[j]? = some dx → ObjR w fz ρ (hdrO dx) (.inst j)
  | idict0 : ObjR w fz ρ (dictOf [] 0) (.idict none)
  | idict1 {h : Int} {t : Tok} {v : Value} {n : Nat} {x : V} : VR fz ρ v x → ObjR w fz ρ (dictOf [⟨h, .str (Str.ofString "_headers") t, v⟩] n) (.idict (some x))
theorem DictR.map {w : World} {fz fz' : Lg} {ρ ρ' : List Addr} {o : Obj} {es : List (Int × V)} (h : DictR w fz ρ o es) (f : ∀ vs, VRs fz ρ vs (es.map (·.2)) → VRs fz' ρ' vs (es.map (·.2))) : DictR w fz' ρ' o es :=
  e26 h fun kvs des a b d e g q => ⟨kvs, des, a, b, d, e, g, q.1, f _ q.2⟩
theorem DictR.vrs {w : World} {fz : Lg} {ρ : List Addr} {o : Obj} {es : List (Int × V)} (h : DictR w fz ρ o es) : ∃ vs, VRs fz ρ vs (es.map (·.2)) :=
  e26 h fun _ _ _ _ _ _ _ q => ⟨_, q.2⟩
theorem ObjR.ext {w : World} {fz fz' : Lg} {ρ ρ' : List Addr} (E : Ext fz fz' ρ ρ') {o : Obj} {mo : MO} (h : ObjR w fz ρ o mo) : ObjR w fz' ρ' o mo :=
  ObjR.rec (motive := fun o mo _ => ObjR w fz' ρ' o mo) (fun h => .list (h.ext E)) (fun h => .dict (h.map fun _ k => k.ext E)) (fun h => .inst (E.pre _ _ h)) .idict0 (fun h => .idict1 (h.ext E)) h
structure ObjsR (w : World) (fz : Lg) (ρ : List Addr) (os : List Obj) (H : List MO) : Prop where
  len : os.length = ρ.length
  lenH : H.length = ρ.length
  at_ : ∀ (i : Nat) (o : Obj) (mo : MO), os[i]? = some o → H[i]? = some mo → ObjR w fz ρ o mo
  lo : ∀ (i : Nat) (es : List (Int × V)) (a : Addr), H[i]? = some (.dict es) → ρ[i]? = some a → (a == sysModules) = false
theorem ObjsR.ext {w : World} {fz fz' : Lg} {ρ : List Addr} {os : List Obj} {H : List MO} (h : ObjsR w fz ρ os H) (E : Ext fz fz' ρ ρ) : ObjsR w fz' ρ os H :=
  ⟨h.len, h.lenH, (fun i o mo a b => (h.at_ i o mo a b).ext E), h.lo⟩
theorem ObjsR.get {w : World} {fz : Lg} {ρ : List Addr} {os : List Obj} {H : List MO} (h : ObjsR w fz ρ os H) {i : Nat} {mo : MO} (e : H[i]? = some mo) : ∃ a o, ρ[i]? = some a ∧ os[i]? = some o ∧ ObjR w fz ρ o mo := by
  have hi : i < H.length := by
    rcases Nat.lt_or_ge i H.length with q | q
    · exact q
    · rw [List.getElem?_eq_none q] at e; cases e
  have h1 : i < ρ.length := by rw [← h.lenH]; exact hi
  have h2 : i < os.length := by rw [h.len]; exact h1
  exact ⟨ρ[i], os[i], by simp [h1], by simp [h2], h.at_ i _ _ (by simp [h2]) e⟩
theorem ObjsR.set {w : World} {fz : Lg} {ρ : List Addr} {os : List Obj} {H : List MO} (h : ObjsR w fz ρ os H) {i : Nat} {o : Obj} {mo : MO} (r : ObjR w fz ρ o mo) (hlo : ∀ es a, mo = .dict es → ρ[i]? = some a → (a == sysModules) = false) : ObjsR w fz ρ (os.set i o) (H.set i mo) :=
  ⟨by rw [List.length_set]; exact h.len, by rw [List.length_set]; exact h.lenH, fun j o' mo' a b => by
    by_cases hij : i = j
    · subst hij
      have hi : i < os.length := by
        rcases Nat.lt_or_ge i os.length with q | q
        · exact q
        · rw [List.getElem?_eq_none (by simpa using q)] at a; cases a
      have hi' : i < H.length := by rw [h.lenH, ← h.len]; exact hi
      rw [List.getElem?_set_self hi] at a
      rw [List.getElem?_set_self hi'] at b
      cases a; cases b; exact r
    · rw [List.getElem?_set_ne hij] at a b
      exact h.at_ j _ _ a b, fun j es a p q => by
    by_cases hij : i = j
    · subst hij
      have hi' : i < H.length := by
        rcases Nat.lt_or_ge i H.length with z | z
        · exact z
        · rw [List.getElem?_eq_none (by simpa using z)] at p; cases p
      rw [List.getElem?_set_self hi'] at p
      cases p; exact hlo es a rfl q
    · rw [List.getElem?_set_ne hij] at p
      exact h.lo j es a p q⟩
theorem ObjsR.snoc {w : World} {fz : Lg} {ρ : List Addr} {os : List Obj} {H : List MO} {a : Addr} {o : Obj} {mo : MO} (h : ObjsR w fz ρ os H) (r : ObjR w fz (ρ ++ [a]) o mo) (hlo : ∀ es, mo = .dict es → (a == sysModules) = false) : ObjsR w fz (ρ ++ [a]) (os ++ [o]) (H ++ [mo]) :=
  ⟨by simp [h.len], by simp [h.lenH], fun j o' mo' p q => by
    rcases Nat.lt_trichotomy j os.length with hj | hj | hj
    · rw [List.getElem?_append_left hj] at p
      rw [List.getElem?_append_left (by rw [h.lenH, ← h.len]; exact hj)] at q
      exact (h.at_ j _ _ p q).ext Ext.snoc
    · subst hj
      rw [List.getElem?_append_right (Nat.le_refl _)] at p
      rw [List.getElem?_append_right (by rw [h.lenH, ← h.len]; exact Nat.le_refl _), h.lenH, ← h.len] at q
      simp at p q; subst p; subst q; exact r
    · rw [List.getElem?_eq_none (by simp; lia)] at p; exact (nomatch p), fun j es b p q => by
    rcases Nat.lt_trichotomy j ρ.length with hj | hj | hj
    · rw [List.getElem?_append_left (by rw [h.lenH]; exact hj)] at p
      rw [List.getElem?_append_left hj] at q
      exact h.lo j es b p q
    · subst hj
      rw [List.getElem?_append_right (Nat.le_refl _)] at q
      rw [List.getElem?_append_right (by rw [h.lenH]; exact Nat.le_refl _), h.lenH] at p
      simp at p q; subst q; exact hlo es p
    · rw [List.getElem?_eq_none (by simp; lia)] at q; cases q⟩
end Mine
end

section
open PySem PySem.W PyProof.Rows PySem.Calls PyProof.Rows.LCg
set_option Elab.async false
set_option linter.all false
set_option maxRecDepth 100000
set_option maxHeartbeats 1000000
namespace Mine

noncomputable def put (a : Addr) (o : Obj) (mu : Lg) : Lg := mu.map fun p => if p.1 = a then (a, o) else p
theorem put_fst (a : Addr) (o : Obj) (mu : Lg) : (put a o mu).map (·.1) = mu.map (·.1) := by
  unfold put; rw [List.map_map]; congr 1; funext p
  show (if p.1 = a then (a, o) else p).1 = p.1
  split
  · rename_i h; exact h.symm
  · rfl
theorem put_none {a : Addr} {o : Obj} {mu : Lg} (h : a ∉ mu.map (·.1)) : put a o mu = mu := by
  unfold put
  conv => rhs; rw [← List.map_id mu]
  apply List.map_congr_left
  intro p hp
  show (if p.1 = a then (a, o) else p) = p
  rw [if_neg fun e => h (List.mem_map.mpr ⟨p, hp, e⟩)]
theorem put_append (a : Addr) (o : Obj) (l r : Lg) : put a o (l ++ r) = put a o l ++ put a o r := by
  unfold put; rw [List.map_append]
theorem put_zip {a : Addr} {o : Obj} : ∀ {ρ : List Addr} {os : List Obj} {i : Nat}, ρ.Nodup → ρ[i]? = some a → os.length = ρ.length → put a o (ρ.zip os) = ρ.zip (os.set i o)
  | [], _, _, _, h, _ => by simp at h
  | b :: ρ, [], _, _, _, h => by simp at h
  | b :: ρ, q :: os, 0, hn, h, hl => by
    simp at h; subst h
    have hb : b ∉ (ρ.zip os).map (·.1) := fun q => by
      (refine e12 (List.mem_map.mp q) fun p hp e => ?_)
      exact (List.nodup_cons.mp hn).1 (e ▸ (List.of_mem_zip hp).1)
    show put b o ((b, q) :: ρ.zip os) = (b, o) :: ρ.zip os
    have := put_none (o := o) hb
    unfold put at this ⊢
    rw [List.map_cons, this]; simp
  | b :: ρ, q :: os, i + 1, hn, h, hl => by
    have h' : ρ[i]? = some a := by simpa using h
    have hba : b ≠ a := fun e => (List.nodup_cons.mp hn).1 (e ▸ List.mem_of_getElem? h')
    have ih := put_zip (o := o) (List.nodup_cons.mp hn).2 h' (by simpa using hl : os.length = ρ.length)
    show put a o ((b, q) :: ρ.zip os) = (b, q) :: ρ.zip (os.set i o)
    unfold put at ih ⊢
    rw [List.map_cons, ih]; simp [hba]

structure Led (L : Addr) (g h : Heap) (m : Str → Option Value) (fz mu : Lg) : Prop where
  F : Fr g L h m
  N : News g L h (mu ++ fz)
  nd : (mu.map (·.1)).Nodup
  ap : ∀ p ∈ fz, p.1 ∉ mu.map (·.1)

namespace Led
variable {L : Addr} {g h h' : Heap} {m m' : Str → Option Value} {fz mu mu' : Lg} {a : Addr} {o o' : Obj}
theorem getM (x : Led L g h m fz mu) (hm : (a, o) ∈ mu) : h.get? a = some o := (x.N _ (List.mem_append_left _ hm)).1
theorem getF (x : Led L g h m fz mu) (hm : (a, o) ∈ fz) : h.get? a = some o := (x.N _ (List.mem_append_right _ hm)).1
theorem perm (x : Led L g h m fz mu) (p : mu.Perm mu') : Led L g h m fz mu' :=
  ⟨x.F, fun q hq => x.N q (by
    (refine Or.elim (List.mem_append.mp hq) (fun hq => ?_) (fun hq => ?_))
    · exact List.mem_append_left _ (p.symm.subset hq)
    · exact List.mem_append_right _ hq), (p.map _).nodup_iff.mp x.nd, fun q hq hm => x.ap q hq ((p.map (·.1)).symm.subset hm)⟩
theorem keeps (x : Led L g h m fz mu) (k : ∀ b o, h.get? b = some o → h'.get? b = some o) : Led L g h' m fz mu :=
  ⟨x.F.keeps k, x.N.grown k, x.nd, x.ap⟩
theorem new_not (x : Led L g h m fz mu) : h.objs.size ∉ mu.map (·.1) := fun q => by
  (refine e12 (List.mem_map.mp q) fun p hp e => ?_)
  have := Heap.lt_size (x.N _ (List.mem_append_left _ hp)).1
  rw [e] at this; exact Nat.lt_irrefl _ this
theorem allocF (x : Led L g h m fz mu) (o : Obj) (hf : o.isFreed = false := by rfl) : Led L g (h.push o) m ((h.objs.size, o) :: fz) mu :=
  ⟨x.F.push o, fun p hp => (News.push x.F x.N o hf) p (by
    (refine Or.elim (List.mem_append.mp hp) (fun hp => ?_) (fun hp => ?_))
    · exact .tail _ (List.mem_append_left _ hp)
    · (refine Or.elim (List.mem_cons.mp hp) (fun o190_ => ?_) (fun hp => ?_); subst o190_)
      · exact .head _
      · exact .tail _ (List.mem_append_right _ hp)), x.nd, fun p hp => by
    (refine Or.elim (List.mem_cons.mp hp) (fun o191_ => ?_) (fun hp => ?_); subst o191_)
    · exact x.new_not
    · exact x.ap p hp⟩
theorem allocM (x : Led L g h m fz mu) (o : Obj) (hf : o.isFreed = false := by rfl) : Led L g (h.push o) m fz ((h.objs.size, o) :: mu) :=
  ⟨x.F.push o, fun p hp => (News.push x.F x.N o hf) p hp, by
    rw [List.map_cons]; exact List.nodup_cons.mpr ⟨x.new_not, x.nd⟩, fun p hp hm => by
    rw [List.map_cons] at hm
    (refine Or.elim (List.mem_cons.mp hm) (fun e => ?_) (fun hm => ?_))
    · have := Heap.lt_size (x.N _ (List.mem_append_right _ hp)).1
      rw [show p.1 = h.objs.size from e] at this; exact Nat.lt_irrefl _ this
    · exact x.ap p hp hm⟩
theorem loc (x : Led L g h m fz mu) (hn : h'.Ns L m') (hs : Heap.SameBut L h h') : Led L g h' m' fz mu := ⟨x.F.set hn hs, x.N.set hs, x.nd, x.ap⟩
theorem ne_L (x : Led L g h m fz mu) (hm : (a, o) ∈ mu) : a ≠ L := (x.N _ (List.mem_append_left _ hm)).2.1
theorem upd (x : Led L g h m fz mu) (hm : (a, o) ∈ mu) (hs : Heap.SameBut a h h') (ho : h'.get? a = some o') : Led L g h' m fz (put a o' mu) := by
  have z := x.N _ (List.mem_append_left fz hm)
  refine ⟨x.F.change hs z.2.1 z.2.2, fun p hp => ?_, by rw [put_fst]; exact x.nd, fun p hp => by rw [put_fst]; exact x.ap p hp⟩
  (refine Or.elim (List.mem_append.mp hp) (fun hp => ?_) (fun hp => ?_))
  · unfold put at hp
    (refine e12 (List.mem_map.mp hp) fun q hq e => ?_)
    by_cases hqa : q.1 = a
    · rw [if_pos hqa] at e; subst e; exact ⟨ho, z.2⟩
    · rw [if_neg hqa] at e; subst e
      have y := x.N q (List.mem_append_left _ hq)
      exact ⟨(hs.2 _ hqa).trans y.1, y.2⟩
  · have y := x.N p (List.mem_append_right _ hp)
    have hpa : p.1 ≠ a := fun e => x.ap p hp (List.mem_map.mpr ⟨_, hm, e.symm⟩)
    exact ⟨(hs.2 _ hpa).trans y.1, y.2⟩
theorem nodupR {xs ys : Lg} {ρ : List Addr} {os : List Obj} (x : Led L g h m fz (xs ++ (ρ.zip os ++ ys))) (hl : os.length = ρ.length) : ρ.Nodup := by
  have := x.nd
  rw [List.map_append, List.map_append] at this
  have h2 := (List.nodup_append.mp (List.nodup_append.mp this).2.1).1
  rw [List.map_fst_zip] at h2
  · exact h2
  · lia
end Led

theorem zip_mem {ρ : List Addr} {os : List Obj} {i : Nat} {a : Addr} {o : Obj} (h1 : ρ[i]? = some a) (h2 : os[i]? = some o) : (a, o) ∈ ρ.zip os := by
  have : (ρ.zip os)[i]? = some (a, o) := by simp [List.getElem?_zip_eq_some, h1, h2]
  exact List.mem_of_getElem? this

set_option genInjectivity false in
structure Amb where
  w : World
  n : Nat
  mean : ExcName → Option Value
  mg : Str → Option Value
  mb : Str → Option Value
  A₀ : Around
  base : Heap
  outer : List Env
  dp : Nat
  un : Nat
  gd : Option (List Code)
  cn : Str
  cs : Scope
  L : Addr
  a : Addr
  ccd : Value
  cl : List (Str × Addr)
  fm : Option (Str → Option Value)
noncomputable abbrev Amb.A (c : Amb) : Around := ktrTop c.dp c.un c.gd c.cn c.cs c.L c.a c.ccd c.cl c.outer
noncomputable abbrev Amb.env (c : Amb) : Env := envX c.cn c.cs c.L c.a c.ccd c.cl
noncomputable abbrev Amb.fs (c : Amb) : List Addr := c.outer.filterMap (·.frame)
noncomputable abbrev Amb.M (c : Amb) : Model := model PySem.Challenge.rw_kl0209_01.row.prog c.w

structure Amb.Ok (c : Amb) : Prop where
  XB : (top0.heap_1 c.w.params).In c.base
  TB : Top PP LL c.mean c.mg c.mb c.base
  hk : c.cs.kind = .function
  n1 : 1 ≤ c.n
  d1 : 1 ≤ c.dp
  d3 : 3 ≤ c.un
structure Gr (c : Amb) (g : Heap) : Prop where
  ok : c.Ok
  B : Below c.A₀ c.base c.outer g
  D : KtsDicts c.fs g
theorem Gr.X {c : Amb} {g : Heap} (x : Gr c g) : (top0.heap_1 c.w.params).In g := x.ok.XB.keeps x.B.stays
theorem Gr.T {c : Amb} {g : Heap} (x : Gr c g) : Top PP LL c.mean c.mg c.mb g := x.ok.TB.keeps x.B.stays

noncomputable def setv (x : Str) (v : V) : List (Str × V) → List (Str × V)
  | [] => [(x, v)]
  | (y, u) :: r => if x == y then (y, v) :: r else (y, u) :: setv x v r
theorem lookup_setv (x y : Str) (v : V) : ∀ l : List (Str × V), (setv x v l).lookup y = if y = x then some v else l.lookup y
  | [] => by
    unfold setv
    by_cases h : y = x
    · subst h; simp [List.lookup_cons]
    · have : (y == x) = false := by simpa using h
      simp [List.lookup_cons, this, h]
  | (z, u) :: r => by
    have ih := lookup_setv x y v r
    unfold setv
    by_cases hz : x = z
    · subst hz
      simp only [beq_self_eq_true, if_true, List.lookup_cons]
      by_cases h : y = x
      · subst h; simp
      · have : (y == x) = false := by simpa using h
        simp [this, h]
    · have e : (x == z) = false := by simpa using hz
      simp only [e, Bool.false_eq_true, if_false, List.lookup_cons]
      by_cases h : y = z
      · subst h
        have : ¬ y = x := fun q => hz q.symm
        simp [this]
      · have : (y == z) = false := by simpa using h
        simp only [this]; exact ih

noncomputable def VarAt (c : Amb) (env : Env) (m : Str → Option Value) (mu : Lg) (x : Str) (v : Value) : Prop :=
  (env.kindOf x = some .local ∧ env.locals = c.L ∧ m x = some v) ∨
  (env.kindOf x = some .local ∧ ∃ o mm, (env.locals, o) ∈ mu ∧ NsObj o mm ∧ mm x = some v) ∨
  ((env.kindOf x = some .cell ∨ (env.kindOf x = some .free ∧ (x == ("__classdict__" : Str)) = false)) ∧ ∃ ca o, env.cells.lookup x = some ca ∧ (ca, o) ∈ mu ∧ o.data = .cell (some v))
noncomputable def VarsR (c : Amb) (env : Env) (m : Str → Option Value) (mu fz : Lg) (ρ : List Addr) (vars : List (Str × V)) : Prop :=
  ∀ x v, vars.lookup x = some v → ∃ v', VarAt c env m mu x v' ∧ VR fz ρ v' v
theorem VarsR.ext {c : Amb} {env : Env} {m : Str → Option Value} {mu fz fz' : Lg} {ρ ρ' : List Addr} {vars : List (Str × V)} (E : Ext fz fz' ρ ρ') (h : VarsR c env m mu fz ρ vars) : VarsR c env m mu fz' ρ' vars :=
  fun x v e => let ⟨v', a, b⟩ := h x v e; ⟨v', a, b.ext E⟩
end Mine
end

section
open PySem PySem.W PyProof.Rows PySem.Calls PyProof.Rows.LCg
set_option Elab.async false
set_option linter.all false
set_option maxRecDepth 100000
set_option maxHeartbeats 1000000
namespace Mine

structure Sc where
  env : Env
  own : List Str
structure EnvOk (env : Env) : Prop where
  hk : env.scope.kind = .function
  hg : env.globals = mainGlobals
  hb : env.builtins = builtinsNs
theorem EnvOk.st {env : Env} (x : EnvOk env) : (env.scope.kind == .class || (env.scope.kind == .module && env.locals != env.globals)) = false := by
  rw [x.hk]; rfl

structure Fm (c : Amb) (e : Sc) (m : Str → Option Value) (xs ys fz : Lg) (ρ : List Addr) (vars : List (Str × V)) : Prop where
  vars : VarsR c e.env m (xs ++ ys) fz ρ vars
  cells : ∀ x ∈ e.own, e.env.kindOf x = some .cell ∧ ∃ ca o v₀, e.env.cells.lookup x = some ca ∧ (ca, o) ∈ xs ∧ o.data = .cell v₀
  inj : ∀ x ∈ e.own, ∀ y, e.env.cells.lookup y = e.env.cells.lookup x → y = x
  loc : e.env.locals = c.L ∨ ∃ o mm, (e.env.locals, o) ∈ xs ∧ NsObj o mm
  fr : ∀ m₀, c.fm = some m₀ → m = m₀ ∧ e.env.locals ≠ c.L

inductive RX (c : Amb) (e : Sc) (vars : List (Str × V)) (H : List MO) (fz : Lg) (ρ : List Addr) (ys : Lg) (g h : Heap) : Prop
  | mk (m : Str → Option Value) (os : List Obj) (xs : Lg) : Led c.L g h m fz (xs ++ (ρ.zip os ++ ys)) → ObjsR c.w fz ρ os H → Fm c e m xs ys fz ρ vars → RX c e vars H fz ρ ys g h
structure Rep (c : Amb) (e : Sc) (vars : List (Str × V)) (H : List MO) (fz : Lg) (ρ : List Addr) (ys : Lg) (g h : Heap) (tk : Nat) : Prop where
  gr : Gr c g
  lo : c.n ≤ tk
  env : EnvOk e.env
  ex : RX c e vars H fz ρ ys g h

theorem VarAt.sub {c : Amb} {env : Env} {m : Str → Option Value} {mu mu' : Lg} {x : Str} {v : Value} (h : VarAt c env m mu x v) (s : ∀ p ∈ mu, p ∈ mu') : VarAt c env m mu' x v := by
  (refine Or.elim h (fun h => ?_) (fun o192_ => ?_); rotate_left 1; try clear h; (refine Or.elim o192_ (fun o51_ => ?_) (fun o52_ => ?_); rotate_left 1; try clear o192_; (refine e02 o52_ fun a q1_ => ?_; try clear o52_; obtain ⟨ca, o, b, d, r⟩ := q1_); rotate_right 1; try clear o192_; (refine e02 o51_ fun a q2_ => ?_; try clear o51_; obtain ⟨o, mm, b, r⟩ := q2_)); rotate_right 1)
  · exact .inl h
  · exact .inr (.inl ⟨a, o, mm, s _ b, r⟩)
  · exact .inr (.inr ⟨a, ca, o, b, s _ d, r⟩)

namespace Rep
variable {c : Amb} {e : Sc} {vars : List (Str × V)} {H : List MO} {fz ys : Lg} {ρ : List Addr} {g h h' : Heap} {tk : Nat}
theorem up (R : Rep c e vars H fz ρ ys g h tk) {tk' : Nat} (h' : tk ≤ tk') : Rep c e vars H fz ρ ys g h tk' := ⟨R.gr, Nat.le_trans R.lo h', R.env, R.ex⟩
theorem at1 (R : Rep c e vars H fz ρ ys g h tk) {tk' : Nat} (h' : c.n ≤ tk') : Rep c e vars H fz ρ ys g h tk' := ⟨R.gr, h', R.env, R.ex⟩
theorem garbage (R : Rep c e vars H fz ρ ys g h tk) (k : ∀ b o, h.get? b = some o → h'.get? b = some o) : Rep c e vars H fz ρ ys g h' tk :=
  let ⟨m, os, xs, l, o, f⟩ := R.ex; ⟨R.gr, R.lo, R.env, m, os, xs, l.keeps k, o, f⟩
theorem push (R : Rep c e vars H fz ρ ys g h tk) (o : Obj) : Rep c e vars H fz ρ ys g (h.push o) tk := R.garbage fun _ _ q => Heap.get?_push_of_some _ q
theorem fm_ext {m : Str → Option Value} {xs fz' : Lg} {ρ' : List Addr} (f : Fm c e m xs ys fz ρ vars) (E : Ext fz fz' ρ ρ') : Fm c e m xs ys fz' ρ' vars := ⟨f.vars.ext E, f.cells, f.inj, f.loc, f.fr⟩
theorem allocF (R : Rep c e vars H fz ρ ys g h tk) (o : Obj) (hf : o.isFreed = false := by rfl) : Rep c e vars H ((h.objs.size, o) :: fz) ρ ys g (h.push o) tk :=
  let ⟨m, os, xs, l, q, f⟩ := R.ex; ⟨R.gr, R.lo, R.env, m, os, xs, l.allocF o hf, q.ext Ext.cons, fm_ext f Ext.cons⟩
theorem allocM (R : Rep c e vars H fz ρ ys g h tk) {o : Obj} {mo : MO} (r : ObjR c.w fz (ρ ++ [h.objs.size]) o mo) (hf : o.isFreed = false) (hlo : ∀ es, mo = .dict es → (h.objs.size == sysModules) = false := by intro es he; cases he) : Rep c e vars (H ++ [mo]) fz (ρ ++ [h.objs.size]) ys g (h.push o) tk := by
  obtain ⟨m, os, xs, l, q, f⟩ := R.ex
  refine ⟨R.gr, R.lo, R.env, m, os ++ [o], xs, (l.allocM o hf).perm ?_, q.snoc r hlo, fm_ext f Ext.snoc⟩
  rw [List.zip_append q.len.symm]
  show ((h.objs.size, o) :: (xs ++ (ρ.zip os ++ ys))).Perm (xs ++ ((ρ.zip os ++ [(h.objs.size, o)]) ++ ys))
  rw [List.append_assoc, ← List.append_assoc, ← List.append_assoc, ← List.append_assoc]
  rw [List.append_assoc (xs ++ ρ.zip os)]
  exact (List.perm_middle (a := (h.objs.size, o)) (l₁ := xs ++ ρ.zip os) (l₂ := ys)).symm
theorem get (R : Rep c e vars H fz ρ ys g h tk) {i : Nat} {mo : MO} (q : H[i]? = some mo) : ∃ a o, ρ[i]? = some a ∧ h.get? a = some o ∧ ObjR c.w fz ρ o mo := by
  obtain ⟨m, os, xs, l, r, f⟩ := R.ex
  (refine e23 (r.get q) fun a o h1 h2 h3 => ?_)
  exact ⟨a, o, h1, l.getM (List.mem_append_right _ (List.mem_append_left _ (zip_mem h1 h2))), h3⟩
theorem fm_put {m : Str → Option Value} {xs : Lg} {a : Addr} {o : Obj} (f : Fm c e m xs ys fz ρ vars) (h1 : put a o xs = xs) (h2 : put a o ys = ys) : Fm c e m xs ys fz ρ vars := f
theorem update (R : Rep c e vars H fz ρ ys g h tk) {i : Nat} {a : Addr} {o' : Obj} {mo' : MO} (hi : ρ[i]? = some a) (hs : Heap.SameBut a h h') (ho : h'.get? a = some o') (r : ObjR c.w fz ρ o' mo') (hlo : ∀ es, mo' = .dict es → (a == sysModules) = false := by intro es he; cases he) : Rep c e vars (H.set i mo') fz ρ ys g h' tk := by
  obtain ⟨m, os, xs, l, q, f⟩ := R.ex
  have hi' : i < os.length := by
    rw [q.len]
    (refine Or.elim (Nat.lt_or_ge i ρ.length) (fun z => ?_) (fun z => ?_))
    · exact z
    · rw [List.getElem?_eq_none z] at hi; exact ns hi
  have hm : (a, os[i]) ∈ ρ.zip os := zip_mem hi (by simp [hi'])
  have l' := l.upd (List.mem_append_right _ (List.mem_append_left _ hm)) hs ho
  have nd := l.nd
  have hρ := l.nodupR q.len
  have ha : a ∈ (ρ.zip os).map (·.1) := List.mem_map.mpr ⟨_, hm, rfl⟩
  rw [List.map_append, List.map_append] at nd
  have n1 := List.nodup_append.mp nd
  have n2 := List.nodup_append.mp n1.2.1
  have hx : a ∉ xs.map (·.1) := fun z => n1.2.2 _ z _ (List.mem_append_left _ ha) rfl
  have hy : a ∉ ys.map (·.1) := fun z => n2.2.2 _ ha _ z rfl
  rw [put_append, put_append, put_none hx, put_none hy, put_zip hρ hi q.len] at l'
  exact ⟨R.gr, R.lo, R.env, m, os.set i o', xs, l', q.set r (fun es b h1 h2 => by rw [hi] at h2; (replace h2 := Option.some.inj h2; subst h2); exact hlo es h1), f⟩
theorem forget (R : Rep c e vars H fz ρ ys g h tk) {vars' : List (Str × V)} (k : ∀ x v, vars'.lookup x = some v → vars.lookup x = some v) : Rep c e vars' H fz ρ ys g h tk :=
  let ⟨m, os, xs, l, o, f⟩ := R.ex; ⟨R.gr, R.lo, R.env, m, os, xs, l, o, ⟨fun x v q => f.vars x v (k x v q), f.cells, f.inj, f.loc, f.fr⟩⟩
end Rep
end Mine
end

section
open PySem PySem.W PyProof.Rows PySem.Calls PyProof.Rows.LCg
set_option Elab.async false
set_option linter.all false
set_option maxRecDepth 100000
set_option maxHeartbeats 1000000
namespace Mine

noncomputable abbrev Vars := List (Str × V)
noncomputable def Tri (c : Amb) (e : Sc) (vars : Vars) (H : List MO) {α : Type} (t : Sem α) (P : Lg → List Addr → α → Prop) (vars' : Vars) (H' : List MO) : Prop :=
  ∀ (s : Shared) (fz ys : Lg) (ρ : List Addr) (g : Heap) (Q : α → Shared → Prop) (E : Value → Shared → Prop),
    Rep c e vars H fz ρ ys g s.heap s.toks →
    (∀ (v : α) (h' : Heap) (tk' : Nat) (g' : Heap) (fz' : Lg) (ρ' : List Addr), KtsTurn c.fs g g' → Ext fz fz' ρ ρ' → P fz' ρ' v → Rep c e vars' H' fz' ρ' ys g' h' tk' → Q v { s with heap := h', toks := tk' }) →
    wpAny c.M c.A t Q E s
noncomputable abbrev TE (c : Amb) (e : Sc) (vars : Vars) (H : List MO) (t : Sem Value) (x : V) (H' : List MO) : Prop := Tri c e vars H t (fun fz ρ v => VR fz ρ v x) vars H'
noncomputable abbrev TEs (c : Amb) (e : Sc) (vars : Vars) (H : List MO) (t : Sem (List Value)) (xs : List V) (H' : List MO) : Prop := Tri c e vars H t (fun fz ρ v => VRs fz ρ v xs) vars H'
noncomputable abbrev TB (c : Amb) (e : Sc) (vars : Vars) (H : List MO) (t : Sem Bool) (b : Bool) (H' : List MO) : Prop := Tri c e vars H t (fun _ _ v => v = b) vars H'
noncomputable def PO (c : Amb) (e : Sc) (vars : Vars) (H : List MO) (op : Value → Value → Sem Value) (x y z : V) (H' : List MO) : Prop :=
  ∀ (a b : Value) (s : Shared) (fz ys : Lg) (ρ : List Addr) (g : Heap) (Q : Value → Shared → Prop) (E : Value → Shared → Prop),
    Rep c e vars H fz ρ ys g s.heap s.toks → VR fz ρ a x → VR fz ρ b y →
    (∀ (v : Value) (h' : Heap) (tk' : Nat) (g' : Heap) (fz' : Lg) (ρ' : List Addr), KtsTurn c.fs g g' → Ext fz fz' ρ ρ' → VR fz' ρ' v z → Rep c e vars H' fz' ρ' ys g' h' tk' → Q v { s with heap := h', toks := tk' }) →
    wpAny c.M c.A (op a b) Q E s

variable {c : Amb} {e : Sc} {vars vars' vars'' : Vars} {H H1 H2 H3 : List MO}

theorem TE_int {i : Int} {k : Nat} {pos : Pos} : TE c e vars H (eval (.Constant (.int i) k pos) e.env) (.int i) H := fun s fz ys ρ g Q E R k =>
  wpAny_Constant_int (k _ s.heap _ g fz ρ KtsTurn.refl Ext.refl (.int i _ trivial) (R.up (Nat.le_succ _)))
theorem TE_str {x : Str} {k : Nat} {pos : Pos} : TE c e vars H (eval (.Constant (.str x) k pos) e.env) (.str x) H := fun s fz ys ρ g Q E R k =>
  wpAny_Constant_str (k _ s.heap _ g fz ρ KtsTurn.refl Ext.refl (.str x _ trivial) (R.up (Nat.le_succ _)))
theorem TE_bool {b : Bool} {k : Nat} {pos : Pos} : TE c e vars H (eval (.Constant (.bool b) k pos) e.env) (.bool b) H := fun s fz ys ρ g Q E R k =>
  wpAny_Constant_bool (k _ s.heap s.toks g fz ρ KtsTurn.refl Ext.refl (.bool b) R)
theorem TE_none {k : Nat} {pos : Pos} : TE c e vars H (eval (.Constant .none k pos) e.env) .none H := fun s fz ys ρ g Q E R k =>
  wpAny_Constant_none (k _ s.heap s.toks g fz ρ KtsTurn.refl Ext.refl .none R)

theorem TE_var {x : Str} {v : V} {pos : Pos} (hv : vars.lookup x = some v) (hd : (x == ("__debug__" : Str)) = false := by decide) : TE c e vars H (eval (.Name x pos) e.env) v H := fun s fz ys ρ g Q E R k => by
  obtain ⟨m, os, xs, l, o, f⟩ := R.ex
  (refine e12 (f.vars x v hv) fun v' hat hr => ?_)
  have fin : Q v' s := k v' s.heap s.toks g fz ρ KtsTurn.refl Ext.refl hr R
  have hmem : ∀ {a : Addr} {o : Obj}, (a, o) ∈ xs ++ ys → s.heap.get? a = some o := fun hm => l.getM (by
    (refine Or.elim (List.mem_append.mp hm) (fun q => ?_) (fun q => ?_))
    · exact List.mem_append_left _ q
    · exact List.mem_append_right _ (List.mem_append_right _ q))
  refine wpAny_Name ?_ hd
  (refine Or.elim hat (fun o193_ => ?_) (fun o194_ => ?_); rotate_left 1; try clear hat; (refine Or.elim o194_ (fun o53_ => ?_) (fun o54_ => ?_); rotate_left 1; try clear o194_; (refine e02 o54_ fun h1 q3_ => ?_; try clear o54_; obtain ⟨ca, o, h2, h3, h4⟩ := q3_); rotate_right 1; try clear o194_; (refine e02 o53_ fun h1 q4_ => ?_; try clear o53_; obtain ⟨o, mm, h2, h3, h4⟩ := q4_)); rotate_right 1; try clear hat; (refine e03 o193_ fun h1 h2 h3 => ?_; try clear o193_))
  · exact wpAny_loadName_local R.env.hk h1 (h2 ▸ l.F.ns) h3 fin
  · exact wpAny_loadName_local R.env.hk h1 (h3.ns (hmem h2)) h4 fin
  · (refine Or.elim h1 (fun h1 => ?_) (fun o195_ => ?_); rotate_left 1; try clear h1; (refine e02 o195_ fun h1 hn => ?_; try clear o195_); rotate_right 1)
    · exact wpAny_loadName_cell R.env.hk h1 h2 ⟨o, hmem h3, h4⟩ fin
    · exact wpAny_loadName_free R.env.hk h1 h2 ⟨o, hmem h3, h4⟩ fin hn

theorem TE_glob {x : Str} {v : Value} {pos : Pos} (hx : e.env.kindOf x = some .globalImplicit) (hv : nsIn (top0.heap_1 c.w.params) mainGlobals x = some (some v)) (hd : (x == ("__debug__" : Str)) = false := by decide) :
    TE c e vars H (eval (.Name x pos) e.env) (.con v) H := fun s fz ys ρ g Q E R k => by
  obtain ⟨m, os, xs, l, o, f⟩ := R.ex
  refine Name_function_global R.env.hk hx (loadGlobal_global (mg := c.mg) (by rw [R.env.hg]; exact R.gr.T.g.keeps l.F.keep) (mg_of R.gr.X R.gr.T.g hv) ?_) hd
  exact k v s.heap s.toks g fz ρ KtsTurn.refl Ext.refl (.con v) R
theorem TE_boot {x : Str} {v : Value} {pos : Pos} (hx : e.env.kindOf x = some .globalImplicit) (hv : nsIn (top0.heap_1 c.w.params) mainGlobals x = some none) (hb : bootBuiltins x = some v) (hn : x ≠ "__name__" := by decide) (hd : (x == ("__debug__" : Str)) = false := by decide) :
    TE c e vars H (eval (.Name x pos) e.env) (.con v) H := fun s fz ys ρ g Q E R k => by
  obtain ⟨m, os, xs, l, o, f⟩ := R.ex
  refine Name_function_global R.env.hk hx (loadGlobal_builtin (mg := c.mg) (mb := c.mb) (by rw [R.env.hg]; exact R.gr.T.g.keeps l.F.keep) (mg_none_of R.gr.X R.gr.T.g hv) (by rw [R.env.hb]; exact R.gr.T.b.keeps l.F.keep) ((R.gr.T.builtins x hn).trans hb) ?_) hd
  exact k v s.heap s.toks g fz ρ KtsTurn.refl Ext.refl (.con v) R

theorem TE_bin {l r : Expr} {op : Operator} {pos : Pos} {x y z : V} (h1 : TE c e vars H (eval l e.env) x H1) (h2 : TE c e vars H1 (eval r e.env) y H2) (h3 : PO c e vars H2 (binaryOp op) x y z H3) :
    TE c e vars H (eval (.BinOp l op r pos) e.env) z H3 := fun s fz ys ρ g Q E R k => by
  refine wpAny_BinOp (h1 _ _ _ _ _ _ _ R fun a hh1 tk1 g1 fz1 ρ1 T1 X1 v1 R1 => ?_)
  refine h2 _ _ _ _ _ _ _ R1 fun b hh2 tk2 g2 fz2 ρ2 T2 X2 v2 R2 => ?_
  exact h3 _ _ _ _ _ _ _ _ _ R2 (v1.ext X2) v2 fun v hh3 tk3 g3 fz3 ρ3 T3 X3 v3 R3 => k v hh3 tk3 g3 fz3 ρ3 ((T1.trans T2).trans T3) ((X1.trans X2).trans X3) v3 R3
theorem TE_cmp {l r : Expr} {op : CmpOp} {pos : Pos} {x y z : V} (h1 : TE c e vars H (eval l e.env) x H1) (h2 : TE c e vars H1 (eval r e.env) y H2) (h3 : PO c e vars H2 (compareOp op) x y z H3)
    (hm : behindInMarks op r = false := by with_unfolding_all rfl) : TE c e vars H (eval (.Compare l [op] [r] pos) e.env) z H3 := fun s fz ys ρ g Q E R k => by
  refine wpAny_Compare1 (h1 _ _ _ _ _ _ _ R fun a hh1 tk1 g1 fz1 ρ1 T1 X1 v1 R1 => ?_) hm
  refine h2 _ _ _ _ _ _ _ R1 fun b hh2 tk2 g2 fz2 ρ2 T2 X2 v2 R2 => ?_
  exact h3 _ _ _ _ _ _ _ _ _ R2 (v1.ext X2) v2 fun v hh3 tk3 g3 fz3 ρ3 T3 X3 v3 R3 => k v hh3 tk3 g3 fz3 ρ3 ((T1.trans T2).trans T3) ((X1.trans X2).trans X3) v3 R3

theorem PO_int {op : Value → Value → Sem Value} {i j : Int} {z : V} {r q : Tok → Prop} (h : ∀ (t u : Tok) (s : Shared) (Q : Value → Shared → Prop) (E : Value → Shared → Prop), (∀ v tk, VR [] [] v z → Q v { s with toks := tk }) → wpAny c.M c.A (op (.int i t) (.int j u)) Q E s) :
    PO c e vars H op (.intP i r) (.intP j q) z H := fun a b s fz ys ρ g Q E R h1 h2 k => by
  induction h1 using VR.intE; induction h2 using VR.intE
  refine wpAny_with_toks (Nat.le_refl s.toks) (wpAny_mono (h _ _ _ _ E fun v tk hv => ?_) (fun _ _ x => x) fun _ _ x _ => x)
  intro hle
  exact k v s.heap tk g fz ρ KtsTurn.refl Ext.refl (hv.ext ⟨fun _ h => absurd h List.not_mem_nil, fun i a h => by simp at h⟩) (R.up hle)
section
variable {r q : Tok → Prop}
theorem PO_addI {i j : Int} : PO c e vars H (binaryOp .Add) (.intP i r) (.intP j q) (.int (i + j)) H := PO_int fun _ _ s _ _ k => add_int (k _ _ (.int _ _ trivial))
theorem PO_subI {i j : Int} : PO c e vars H (binaryOp .Sub) (.intP i r) (.intP j q) (.int (i - j)) H := PO_int fun _ _ s _ _ k => sub_int (k _ _ (.int _ _ trivial))
theorem PO_modI {i j : Int} (h : j ≠ 0) : PO c e vars H (binaryOp .Mod) (.intP i r) (.intP j q) (.int (i.fmod j)) H := PO_int fun _ _ s _ _ k => mod_int' h (k _ _ (.int _ _ trivial))
theorem PO_divI {i j : Int} (h : j ≠ 0) (hp : ∀ (M : Model) (A : Around) (s : Shared), Builtin.divisionGoesByPylong i j = false ∨ PylongRoom M A s) : PO c e vars H (binaryOp .FloorDiv) (.intP i r) (.intP j q) (.int (i.fdiv j)) H :=
  PO_int fun _ _ s _ _ k => floordiv_int h (k _ _ (.int _ _ trivial)) (hp _ _ _)
theorem PO_ltI {i j : Int} : PO c e vars H (compareOp .Lt) (.intP i r) (.intP j q) (.bool (decide (i < j))) H := PO_int fun _ _ s _ _ k => lt_int (k _ s.toks (.bool _))
theorem PO_geI {i j : Int} : PO c e vars H (compareOp .GtE) (.intP i r) (.intP j q) (.bool (decide (j ≤ i))) H := PO_int fun _ _ s _ _ k => ge_int (k _ s.toks (.bool _))
theorem PO_eqI {i j : Int} : PO c e vars H (compareOp .Eq) (.intP i r) (.intP j q) (.bool (i == j)) H := PO_int fun _ _ s _ _ k => eq_int (k _ s.toks (.bool _))
theorem PO_neI {i j : Int} : PO c e vars H (compareOp .NotEq) (.intP i r) (.intP j q) (.bool (i != j)) H := PO_int fun _ _ s _ _ k => ne_int (k _ s.toks (.bool _))
theorem PO_str {op : Value → Value → Sem Value} {i j : Str} {z : V} {r q : Tok → Prop} (h : ∀ (t u : Tok) (s : Shared) (Q : Value → Shared → Prop) (E : Value → Shared → Prop), (∀ v tk, VR [] [] v z → Q v { s with toks := tk }) → wpAny c.M c.A (op (.str i t) (.str j u)) Q E s) :
    PO c e vars H op (.strP i r) (.strP j q) z H := fun a b s fz ys ρ g Q E R h1 h2 k => by
  induction h1 using VR.strE; induction h2 using VR.strE
  refine wpAny_with_toks (Nat.le_refl s.toks) (wpAny_mono (h _ _ _ _ E fun v tk hv => ?_) (fun _ _ x => x) fun _ _ x _ => x)
  intro hle
  exact k v s.heap tk g fz ρ KtsTurn.refl Ext.refl (hv.ext ⟨fun _ h => absurd h List.not_mem_nil, fun i a h => by simp at h⟩) (R.up hle)
theorem PO_addS {x y : Str} (h : x.length + y.length ≤ sizeLine) : PO c e vars H (binaryOp .Add) (.strP x r) (.strP y q) (.str (x ++ y)) H := PO_str fun _ _ s _ _ k => add_str (fun _ _ => k _ _ (.str _ _ trivial)) h
theorem PO_eqS {x y : Str} : PO c e vars H (compareOp .Eq) (.strP x r) (.strP y q) (.bool (x == y)) H := PO_str fun _ _ s _ _ k => eq_str (k _ s.toks (.bool _))
theorem PO_neS {x y : Str} : PO c e vars H (compareOp .NotEq) (.strP x r) (.strP y q) (.bool (x != y)) H := PO_str fun _ _ s _ _ k => ne_str (k _ s.toks (.bool _))
end

theorem Tri.mono {α : Type} {t : Sem α} {P P' : Lg → List Addr → α → Prop} (h : Tri c e vars H t P vars' H1) (k : ∀ fz ρ a, P fz ρ a → P' fz ρ a) : Tri c e vars H t P' vars' H1 :=
  fun s fz ys ρ g Q E R kk => h s fz ys ρ g Q E R fun v h' tk' g' fz' ρ' T X p R' => kk v h' tk' g' fz' ρ' T X (k _ _ _ p) R'
theorem TB_plain {x : Expr} {whole : Sem Value} {b : Bool} (h : TE c e vars H whole (.bool b) H1) (hp : isTrue x e.env whole = (do let v ← whole; standAt x.pos; holding [v] (truthy v)) := by rfl) :
    TB c e vars H (isTrue x e.env whole) b H1 := fun s fz ys ρ g Q E R k => by
  refine isTrue_plain (h _ _ _ _ _ _ _ R fun v h1 tk1 g1 fz1 ρ1 T1 X1 v1 R1 => ?_) hp
  cases v1
  exact wpAny_truthy_bool (k _ h1 tk1 g1 fz1 ρ1 T1 X1 rfl R1)
theorem TB_cmp {l r : Expr} {op : CmpOp} {pos : Pos} {x y : V} {b : Bool} {whole : Sem Value} (h1 : TE c e vars H (eval l e.env) x H1) (h2 : TE c e vars H1 (eval r e.env) y H2) (h3 : PO c e vars H2 (compareOp op) x y (.bool b) H3)
    (hm : behindInMarks op r = false := by with_unfolding_all rfl) : TB c e vars H (isTrue (.Compare l [op] [r] pos) e.env whole) b H3 := fun s fz ys ρ g Q E R k => by
  refine wpAny_isTrue_Compare1 (h1 _ _ _ _ _ _ _ R fun a hh1 tk1 g1 fz1 ρ1 T1 X1 v1 R1 => ?_) hm
  refine h2 _ _ _ _ _ _ _ R1 fun b hh2 tk2 g2 fz2 ρ2 T2 X2 v2 R2 => ?_
  refine h3 _ _ _ _ _ _ _ _ _ R2 (v1.ext X2) v2 fun v hh3 tk3 g3 fz3 ρ3 T3 X3 v3 R3 => ?_
  cases v3
  exact wpAny_truthy_bool (k _ hh3 tk3 g3 fz3 ρ3 ((T1.trans T2).trans T3) ((X1.trans X2).trans X3) rfl R3)
theorem TB_not {x : Expr} {pos : Pos} {whole : Sem Value} {b : Bool} (h : TB c e vars H (isTrue x e.env (eval x e.env)) b H1) : TB c e vars H (isTrue (.UnaryOp .Not x pos) e.env whole) (!b) H1 := fun s fz ys ρ g Q E R k =>
  isTrue_not (h _ _ _ _ _ _ _ R fun v h1 tk1 g1 fz1 ρ1 T1 X1 v1 R1 => by subst v1; exact k _ h1 tk1 g1 fz1 ρ1 T1 X1 rfl R1)
theorem TE_if {t b o : Expr} {pos : Pos} {x : V} {q : Bool} (h1 : TB c e vars H (isTrue t e.env (eval t e.env)) q H1) (h2 : q = true → TE c e vars H1 (eval b e.env) x H2) (h3 : q = false → TE c e vars H1 (eval o e.env) x H2) :
    TE c e vars H (eval (.IfExp t b o pos) e.env) x H2 := fun s fz ys ρ g Q E R k => by
  refine wpAny_IfExp (h1 _ _ _ _ _ _ _ R fun v hh1 tk1 g1 fz1 ρ1 T1 X1 v1 R1 => ?_)
  subst v1
  cases v with
  | true => exact h2 rfl _ _ _ _ _ _ _ R1 fun v h' tk' g' fz' ρ' T X p R' => k v h' tk' g' fz' ρ' (T1.trans T) (X1.trans X) p R'
  | false => exact h3 rfl _ _ _ _ _ _ _ R1 fun v h' tk' g' fz' ρ' T X p R' => k v h' tk' g' fz' ρ' (T1.trans T) (X1.trans X) p R'
end Mine
end

section
open PySem PySem.W PyProof.Rows PySem.Calls PyProof.Rows.LCg
set_option Elab.async false
set_option linter.all false
set_option maxRecDepth 100000
set_option maxHeartbeats 1000000
namespace Mine
variable {c : Amb} {e : Sc} {vars vars' vars'' : Vars} {H H1 H2 H3 : List MO}

structure Room (c : Amb) (lv : Nat) : Prop where
  dp : c.dp + lv < recursionLimit
  un : c.un + 8 * lv + 64 < cLine
theorem Room.le {lv lv' : Nat} (r : Room c lv) (h : lv' ≤ lv) : Room c lv' := ⟨by have := r.dp; lia, by have := r.un; lia⟩

noncomputable def MeetsA (w : World) (lv n : Nat) (f : Value) (mk : List Value → Args) (xs : List V) (H : List MO) (r : V) (H' : List MO) : Prop :=
  ∀ (c : Amb) (s : Shared) (m : Str → Option Value) (fz ys : Lg) (ρ : List Addr) (os : List Obj) (g : Heap) (vs : List Value) (Q E : Value → Shared → Prop),
    c.w = w → Gr c g → n ≤ s.toks → Room c lv → Led c.L g s.heap m fz (ρ.zip os ++ ys) → ObjsR w fz ρ os H → VRs fz ρ vs xs →
    (∀ (v : Value) (h' : Heap) (tk' : Nat) (g' : Heap) (fz' : Lg) (ρ' : List Addr) (os' : List Obj), KtsTurn c.fs g g' → Gr c g' → Ext fz fz' ρ ρ' → Led c.L g' h' m fz' (ρ'.zip os' ++ ys) → ObjsR w fz' ρ' os' H' → VR fz' ρ' v r →
      Q v { s with heap := h', toks := tk' }) →
    codeAny c.M c.A (.call f (mk vs)) (fun r s' => match r with | .ok (.ret v) => Q v s' | .ok _ => False | .error e => E e s') s
theorem MeetsA.wp {w : World} {lv n : Nat} {f : Value} {mk : List Value → Args} {xs : List V} {H : List MO} {r : V} {H' : List MO} (hm : MeetsA w lv n f mk xs H r H') :
  ∀ (c : Amb) (s : Shared) (m : Str → Option Value) (fz ys : Lg) (ρ : List Addr) (os : List Obj) (g : Heap) (vs : List Value) (Q E : Value → Shared → Prop),
    c.w = w → Gr c g → n ≤ s.toks → Room c lv → Led c.L g s.heap m fz (ρ.zip os ++ ys) → ObjsR w fz ρ os H → VRs fz ρ vs xs →
    (∀ (v : Value) (h' : Heap) (tk' : Nat) (g' : Heap) (fz' : Lg) (ρ' : List Addr) (os' : List Obj), KtsTurn c.fs g g' → Gr c g' → Ext fz fz' ρ ρ' → Led c.L g' h' m fz' (ρ'.zip os' ++ ys) → ObjsR w fz' ρ' os' H' → VR fz' ρ' v r →
      Q v { s with heap := h', toks := tk' }) →
    wpAny c.M c.A (call f (mk vs).pos (mk vs).kw) Q E s :=
  fun c s m fz ys ρ os g vs Q E h1 h2 h3 h4 h5 h6 h7 h8 => wpAny_call (hm c s m fz ys ρ os g vs Q E h1 h2 h3 h4 h5 h6 h7 h8)
noncomputable abbrev Meets (w : World) (lv n : Nat) (f : Value) (xs : List V) (H : List MO) (r : V) (H' : List MO) : Prop := MeetsA w lv n f (fun vs => ⟨vs, []⟩) xs H r H'
noncomputable def PC (c : Amb) (e : Sc) (vars : Vars) (H : List MO) (f : Value) (xs : List V) (r : V) (H' : List MO) : Prop :=
  ∀ (vs : List Value) (s : Shared) (fz ys : Lg) (ρ : List Addr) (g : Heap) (Q : Value → Shared → Prop) (E : Value → Shared → Prop),
    Rep c e vars H fz ρ ys g s.heap s.toks → VRs fz ρ vs xs →
    (∀ (v : Value) (h' : Heap) (tk' : Nat) (g' : Heap) (fz' : Lg) (ρ' : List Addr), KtsTurn c.fs g g' → Ext fz fz' ρ ρ' → VR fz' ρ' v r → Rep c e vars H' fz' ρ' ys g' h' tk' → Q v { s with heap := h', toks := tk' }) →
    wpAny c.M c.A (call f vs) Q E s

theorem PC_meets {lv n : Nat} {f : Value} {xs : List V} {r : V} (h : Meets c.w lv n f xs H r H1) (hn : n ≤ c.n) (hr : Room c lv) : PC c e vars H f xs r H1 := fun vs s fz ys ρ g Q E R hv k => by
  obtain ⟨m, os, ls, l, o, f⟩ := R.ex
  have p : ∀ (A : Lg), (ls ++ (A ++ ys)).Perm (A ++ (ls ++ ys)) := fun A => by
    rw [← List.append_assoc, ← List.append_assoc]
    exact List.Perm.append_right ys List.perm_append_comm
  refine wpAny_with_toks (Nat.le_refl s.toks) (wpAny_mono (h.wp c s m fz (ls ++ ys) ρ os g vs _ E rfl R.gr (Nat.le_trans hn R.lo) hr (l.perm (p _)) o hv fun v h' tk' g' fz' ρ' os' T G' X l' o' hv' => ?_) (fun _ _ x => x) fun _ _ x _ => x)
  intro hle
  exact k v h' tk' g' fz' ρ' T X hv' ⟨G', Nat.le_trans R.lo hle, R.env, m, os', ls, l'.perm (p _).symm, o', Rep.fm_ext f X⟩

noncomputable def Kept (c : Amb) (f : Value) : Prop := ∀ h : Heap, (top0.heap_1 c.w.params).In h → ∃ k, (k = Keeper.frame ∨ k = Keeper.machine ∨ k = Keeper.boundFrame) ∧ Looks c.M h (keeperOf f) k
theorem Kept.def {f : Value} (h : keepIn (top0.heap_1 c.w.params) f = true) : Kept c f := fun h' X => keeps_K h h' X
theorem Kept.builtin {i : String} : Kept c (.builtin i) := fun _ _ => ⟨.machine, .inr (.inl rfl), Looks.of_pure rfl⟩
theorem Kept.type {i : String} : Kept c (.type i) := fun _ _ => ⟨.machine, .inr (.inl rfl), Looks.of_pure rfl⟩

theorem Rep.In {fz ys : Lg} {ρ : List Addr} {g h : Heap} {tk : Nat} (R : Rep c e vars H fz ρ ys g h tk) : (top0.heap_1 c.w.params).In h :=
  let ⟨_, _, _, l, _, _⟩ := R.ex; R.gr.X.keeps l.F.keep

theorem TEs_nil {pos : Pos} : TEs c e vars H (spliced (backTo pos (starEach [] e.env))) [] H := fun s fz ys ρ g Q E R k =>
  spliced_none (k [] s.heap s.toks g fz ρ KtsTurn.refl Ext.refl .nil R)
theorem TEs_cons {x : Expr} {rest : List Expr} {pos : Pos} {v : V} {vs : List V} (h1 : TE c e vars H (eval x e.env) v H1) (h2 : TEs c e vars H1 (spliced (backTo pos (starEach rest e.env))) vs H2)
    (hs : starEach (x :: rest) e.env = (false, eval x e.env) :: starEach rest e.env := by rfl) : TEs c e vars H (spliced (backTo pos (starEach (x :: rest) e.env))) (v :: vs) H2 := fun s fz ys ρ g Q E R k => by
  rw [hs]
  refine spliced_cons (h1 _ _ _ _ _ _ _ R fun a hh1 tk1 g1 fz1 ρ1 T1 X1 v1 R1 => ?_)
  refine h2 _ _ _ _ _ _ _ R1 fun b hh2 tk2 g2 fz2 ρ2 T2 X2 v2 R2 => ?_
  exact k _ hh2 tk2 g2 fz2 ρ2 (T1.trans T2) (X1.trans X2) (.cons (v1.ext X2) v2) R2

theorem TE_call {x : Str} {np pos : Pos} {a0 : Expr} {args : List Expr} {f : Value} {xs : List V} {r : V} (hf : TE c e vars H (eval (.Name x np) e.env) (.con f) H) (hk : Kept c f) (ha : TEs c e vars H (spliced (backTo pos (starEach (a0 :: args) e.env))) xs H1)
    (hc : PC c e vars H1 f xs r H2) (he : starEach (a0 :: args) e.env = (false, eval a0 e.env) :: starEach args e.env := by rfl) (hp : (backTo pos (starEach args e.env)).any (·.1) = false := by rfl) : TE c e vars H (eval (.Call (.Name x np) (a0 :: args) [] pos) e.env) r H2 := fun s fz ys ρ g Q E R k => by
  refine wpAny_Call_Name_kw (hf _ _ _ _ _ _ _ R fun v hh1 tk1 g1 fz1 ρ1 T1 X1 v1 R1 => ?_)
  cases v1
  show wpAny _ _ (callWith pos f [] (backTo pos (starEach (a0 :: args) e.env)) []) _ _ _
  rw [he] at ha ⊢
  refine callWith_of (P := fun h => (top0.heap_1 c.w.params).In h) (by show ((false || (backTo pos (starEach args e.env)).any (·.1)) || false) = false; rw [hp]; rfl) hk ?_
  refine evalArgs_plain ?_
  refine ha _ _ _ _ _ _ _ R1 fun b hh2 tk2 g2 fz2 ρ2 T2 X2 v2 R2 => ⟨R2.In, ?_⟩
  exact hc _ _ _ _ _ _ _ _ R2 v2 fun v h' tk' g' fz' ρ' T X p R' => k v h' tk' g' fz' ρ' ((T1.trans T2).trans T) ((X1.trans X2).trans X) p R'
theorem TE_call0 {x : Str} {np pos : Pos} {f : Value} {r : V} (hf : TE c e vars H (eval (.Name x np) e.env) (.con f) H) (hk : Kept c f)
    (hc : PC c e vars H f [] r H2) : TE c e vars H (eval (.Call (.Name x np) [] [] pos) e.env) r H2 := fun s fz ys ρ g Q E R k => by
  refine wpAny_Call_Name_kw (hf _ _ _ _ _ _ _ R fun v hh1 tk1 g1 fz1 ρ1 T1 X1 v1 R1 => ?_)
  cases v1
  show wpAny _ _ (callWith pos f [] [] []) _ _ _
  refine callWith_of (P := fun h => (top0.heap_1 c.w.params).In h) rfl hk (evalArgs_nil3 ⟨R1.In, ?_⟩)
  exact hc _ _ _ _ _ _ _ _ R1 .nil fun v h' tk' g' fz' ρ' T X p R' => k v h' tk' g' fz' ρ' (T1.trans T) (X1.trans X) p R'

theorem TE_tuple {es : List Expr} {k : Nat} {pos : Pos} {xs : List V} (h : TEs c e vars H (spliced (backTo pos (starEach es e.env))) xs H1) (hl : xs.length ≤ sizeLine := by decide) : TE c e vars H (eval (.Tuple es k pos) e.env) (.tup xs) H1 := fun s fz ys ρ g Q E R kk => by
  refine Tuple_ (h _ _ _ _ _ _ _ R fun vs hh1 tk1 g1 fz1 ρ1 T1 X1 v1 R1 => ?_)
  refine wpAny_newObj_type (kk _ _ tk1 g1 ((hh1.objs.size, tupO vs 0) :: fz1) ρ1 T1 (X1.trans Ext.cons) (.tup (.head _) (v1.ext Ext.cons)) (R1.allocF (tupO vs 0))) ?_
  show vs.toArray.size ≤ sizeLine
  rw [List.size_toArray, v1.length]; exact hl
theorem TE_listF {es : List Expr} {pos : Pos} {xs : List V} (h : TEs c e vars H (spliced (backTo pos (starEach es e.env))) xs H1) (hl : xs.length ≤ sizeLine := by decide) : TE c e vars H (eval (.List es pos) e.env) (.lst xs) H1 := fun s fz ys ρ g Q E R kk => by
  refine List_ (h _ _ _ _ _ _ _ R fun vs hh1 tk1 g1 fz1 ρ1 T1 X1 v1 R1 => ?_)
  refine wpAny_newObj_type (kk _ _ tk1 g1 ((hh1.objs.size, lstO vs 0) :: fz1) ρ1 T1 (X1.trans Ext.cons) (.lst (.head _) (v1.ext Ext.cons)) (R1.allocF (lstO vs 0))) ?_
  show vs.toArray.size ≤ sizeLine
  rw [List.size_toArray, v1.length]; exact hl
theorem TE_listM {es : List Expr} {pos : Pos} {xs : List V} (h : TEs c e vars H (spliced (backTo pos (starEach es e.env))) xs H1) (hl : xs.length ≤ sizeLine := by decide) : TE c e vars H (eval (.List es pos) e.env) (.obj H1.length) (H1 ++ [.list xs]) := fun s fz ys ρ g Q E R kk => by
  refine List_ (h _ _ _ _ _ _ _ R fun vs hh1 tk1 g1 fz1 ρ1 T1 X1 v1 R1 => ?_)
  have hlen : ρ1.length = H1.length := by obtain ⟨_, _, _, _, q, _⟩ := R1.ex; exact q.lenH.symm
  refine wpAny_newObj_type (kk _ _ tk1 g1 fz1 (ρ1 ++ [hh1.objs.size]) T1 (X1.trans Ext.snoc) (.obj (by rw [← hlen]; simp)) (R1.allocM (.list (v1.ext Ext.snoc)) rfl)) ?_
  show vs.toArray.size ≤ sizeLine
  rw [List.size_toArray, v1.length]; exact hl

noncomputable def TStore (c : Amb) (e : Sc) (x : Str) : Prop := (e.env.kindOf x = some .local) ∨ x ∈ e.own
theorem store {M : Model} {A : Around} {x : Str} {v : V} {v' : Value} {s : Shared} {fz ys : Lg} {ρ : List Addr} {g : Heap} {Q : Unit → Shared → Prop} {E : Value → Shared → Prop} (hx : TStore c e x) (R : Rep c e vars H fz ρ ys g s.heap s.toks) (hv : VR fz ρ v' v)
    (k : ∀ h' tk', Rep c e (setv x v vars) H fz ρ ys g h' tk' → Q () { s with heap := h', toks := tk' }) : wpAny M A (storeName e.env x v') Q E s := by
  obtain ⟨m, os, xs, l, o, f⟩ := R.ex
  (refine Or.elim hx (fun hx => ?_) (fun hx => ?_))
  · by_cases hL : e.env.locals = c.L
    · refine wpAny_storeName_local hx (hL ▸ l.F.ns) (fun h' hn hs => ?_) R.env.st
      refine k h' _ ⟨R.gr, Nat.le_trans R.lo (Nat.le_succ _), R.env, _, os, xs, l.loc (hL ▸ hn) (hL ▸ hs), o, ⟨fun y u q => ?_, f.cells, f.inj, f.loc, fun m₀ q => absurd hL (f.fr m₀ q).2⟩⟩
      rw [lookup_setv] at q
      by_cases hy : y = x
      · rw [if_pos hy] at q; (replace q := Option.some.inj q; subst q)
        subst hy
        exact ⟨v', .inl ⟨hx, hL, by simp⟩, hv⟩
      · rw [if_neg hy] at q
        (refine e12 (f.vars y u q) fun u' hat hr => ?_)
        refine ⟨u', ?_, hr⟩
        (refine Or.elim hat (fun o196_ => ?_) (fun o197_ => ?_); rotate_left 1; try clear hat; (refine Or.elim o197_ (fun o55_ => ?_) (fun h3 => ?_); rotate_left 1; try clear o197_; rotate_right 1; try clear o197_; (refine e02 o55_ fun a1 q5_ => ?_; try clear o55_; obtain ⟨oo, mm, a2, a3, a4⟩ := q5_)); rotate_right 1; try clear hat; (refine e03 o196_ fun a1 a2 a3 => ?_; try clear o196_))
        · exact .inl ⟨a1, a2, by simp [hy, a3]⟩
        · exact absurd hL (l.ne_L (by
            (refine Or.elim (List.mem_append.mp a2) (fun z => ?_) (fun z => ?_))
            · exact List.mem_append_left _ z
            · exact List.mem_append_right _ (List.mem_append_right _ z)))
        · exact .inr (.inr h3)
    · (refine e22 (f.loc.resolve_left hL) fun oC mm hC hns => ?_)
      have hm : (e.env.locals, oC) ∈ xs ++ (ρ.zip os ++ ys) := List.mem_append_left _ hC
      refine wpAny_storeName_local hx (hns.ns (l.getM hm)) (fun h' hn hs => ?_) R.env.st
      (refine e12 (ns_obj hn) fun oC' hoC' hns' => ?_)
      have l' := l.upd hm hs hoC'
      have nd := l.nd
      have ha : e.env.locals ∈ xs.map (·.1) := List.mem_map.mpr ⟨_, hC, rfl⟩
      rw [List.map_append] at nd
      have n1 := List.nodup_append.mp nd
      have hr : e.env.locals ∉ (ρ.zip os ++ ys).map (·.1) := fun z => n1.2.2 _ ha _ z rfl
      rw [put_append, put_none hr] at l'
      have hin : (e.env.locals, oC') ∈ put e.env.locals oC' xs := by
        unfold put; exact List.mem_map.mpr ⟨_, hC, by simp⟩
      have hkeep : ∀ p ∈ xs, p.1 ≠ e.env.locals → p ∈ put e.env.locals oC' xs := fun p hp hn => by
        unfold put; exact List.mem_map.mpr ⟨p, hp, by simp [hn]⟩
      have hkeep' : ∀ p ∈ xs ++ ys, p.1 ≠ e.env.locals → p ∈ put e.env.locals oC' xs ++ ys := fun p hp hn => by
        (refine Or.elim (List.mem_append.mp hp) (fun z => ?_) (fun z => ?_))
        · exact List.mem_append_left _ (hkeep p z hn)
        · exact List.mem_append_right _ z
      have notns : ∀ {ca : Addr} {o : Obj} {w : Option Value}, (ca, o) ∈ xs ++ ys → o.data = .cell w → ca ≠ e.env.locals := fun {ca o w} hm2 hd q => by
        have h1 : (ca, o) ∈ xs ++ (ρ.zip os ++ ys) := by
          (refine Or.elim (List.mem_append.mp hm2) (fun z => ?_) (fun z => ?_))
          · exact List.mem_append_left _ z
          · exact List.mem_append_right _ (List.mem_append_right _ z)
        have e1 := l.getM h1
        have e2 := l.getM hm
        rw [q] at e1; rw [e1] at e2; (replace e2 := Option.some.inj e2; subst e2)
        (refine e22 hns fun es ep hd' _ => ?_; try clear hns)
        rw [hd] at hd'; cases hd'
      refine k h' _ ⟨R.gr, Nat.le_trans R.lo (Nat.le_succ _), R.env, m, os, put e.env.locals oC' xs, l', o, ⟨fun y u q => ?_, fun y hy => ?_, f.inj, .inr ⟨oC', _, hin, hns'⟩, f.fr⟩⟩
      · rw [lookup_setv] at q
        by_cases hy : y = x
        · rw [if_pos hy] at q; (replace q := Option.some.inj q; subst q)
          subst hy
          exact ⟨v', .inr (.inl ⟨hx, oC', _, List.mem_append_left _ hin, hns', by simp⟩), hv⟩
        · rw [if_neg hy] at q
          (refine e12 (f.vars y u q) fun u' hat hr => ?_)
          refine ⟨u', ?_, hr⟩
          (refine Or.elim hat (fun o198_ => ?_) (fun o199_ => ?_); rotate_left 1; try clear hat; (refine Or.elim o199_ (fun o56_ => ?_) (fun o57_ => ?_); rotate_left 1; try clear o199_; (refine e02 o57_ fun a1 q6_ => ?_; try clear o57_; obtain ⟨ca, oo, a2, a3, a4⟩ := q6_); rotate_right 1; try clear o199_; (refine e02 o56_ fun a1 q7_ => ?_; try clear o56_; obtain ⟨oo, mm', a2, a3, a4⟩ := q7_)); rotate_right 1; try clear hat; (refine e03 o198_ fun a1 a2 a3 => ?_; try clear o198_))
          · exact absurd a2 hL
          · have h1 : (e.env.locals, oo) ∈ xs ++ (ρ.zip os ++ ys) := by
              (refine Or.elim (List.mem_append.mp a2) (fun z => ?_) (fun z => ?_))
              · exact List.mem_append_left _ z
              · exact List.mem_append_right _ (List.mem_append_right _ z)
            have e1 := l.getM h1
            rw [l.getM hm] at e1; (replace e1 := Option.some.inj e1; subst e1)
            have hmm : mm' y = mm y := by
              (refine e23 a3 fun es ep d1 _ r1 => ?_; try clear a3)
              (refine e23 hns fun es' ep' d2 _ r2 => ?_; try clear hns)
              rw [d1] at d2; cases d2
              rw [← r1, ← r2]
            exact .inr (.inl ⟨a1, oC', _, List.mem_append_left _ hin, hns', by simp only [if_neg hy]; rw [← hmm]; exact a4⟩)
          · exact .inr (.inr ⟨a1, ca, oo, a2, hkeep' _ a3 (notns a3 a4), a4⟩)
      · (refine e02 (f.cells y hy) fun h1 q8_ => ?_; obtain ⟨ca, oo, v₀, h2, h3, h4⟩ := q8_)
        exact ⟨h1, ca, oo, v₀, h2, hkeep _ h3 (notns (List.mem_append_left _ h3) h4), h4⟩
  · (refine e02 (f.cells x hx) fun h1 q9_ => ?_; obtain ⟨ca, oo, v₀, h2, h3, h4⟩ := q9_)
    have hm : (ca, oo) ∈ xs ++ (ρ.zip os ++ ys) := List.mem_append_left _ h3
    refine wpAny_storeName_cell R.env.hk h1 h2 ⟨oo, l.getM hm, h4⟩ fun h' hc hs => ?_
    (refine e12 hc fun o' ho' hd' => ?_; try clear hc)
    have l' := l.upd hm hs ho'
    have nd := l.nd
    have ha : ca ∈ xs.map (·.1) := List.mem_map.mpr ⟨_, h3, rfl⟩
    rw [List.map_append] at nd
    have n1 := List.nodup_append.mp nd
    have hr : ca ∉ (ρ.zip os ++ ys).map (·.1) := fun z => n1.2.2 _ ha _ z rfl
    rw [put_append, put_none hr] at l'
    have hin : (ca, o') ∈ put ca o' xs := by unfold put; exact List.mem_map.mpr ⟨_, h3, by simp⟩
    have hkeep : ∀ p ∈ xs, p.1 ≠ ca → p ∈ put ca o' xs := fun p hp hn => by
      unfold put; exact List.mem_map.mpr ⟨p, hp, by simp [hn]⟩
    have hkeep' : ∀ p ∈ xs ++ ys, p.1 ≠ ca → p ∈ put ca o' xs ++ ys := fun p hp hn => by
      (refine Or.elim (List.mem_append.mp hp) (fun z => ?_) (fun z => ?_))
      · exact List.mem_append_left _ (hkeep p z hn)
      · exact List.mem_append_right _ z
    have notcell : ∀ {b : Addr} {o : Obj} {mm : Str → Option Value}, (b, o) ∈ xs ++ ys → NsObj o mm → b ≠ ca := fun {b o mm} hm2 hns q => by
      have h1 : (b, o) ∈ xs ++ (ρ.zip os ++ ys) := by
        (refine Or.elim (List.mem_append.mp hm2) (fun z => ?_) (fun z => ?_))
        · exact List.mem_append_left _ z
        · exact List.mem_append_right _ (List.mem_append_right _ z)
      have e1 := l.getM h1
      rw [q, l.getM hm] at e1; (replace e1 := Option.some.inj e1; subst e1)
      (refine e22 hns fun es ep hd2 _ => ?_; try clear hns)
      rw [h4] at hd2; cases hd2
    refine k h' s.toks ⟨R.gr, R.lo, R.env, m, os, put ca o' xs, l', o, ⟨fun y u q => ?_, fun y hy => ?_, f.inj, ?_, f.fr⟩⟩
    · rw [lookup_setv] at q
      by_cases hy : y = x
      · rw [if_pos hy] at q; (replace q := Option.some.inj q; subst q)
        subst hy
        exact ⟨v', .inr (.inr ⟨.inl h1, ca, o', h2, List.mem_append_left _ hin, hd'⟩), hv⟩
      · rw [if_neg hy] at q
        (refine e12 (f.vars y u q) fun u' hat hr => ?_)
        refine ⟨u', ?_, hr⟩
        (refine Or.elim hat (fun h3 => ?_) (fun o200_ => ?_); rotate_left 1; try clear hat; (refine Or.elim o200_ (fun o58_ => ?_) (fun o59_ => ?_); rotate_left 1; try clear o200_; (refine e02 o59_ fun a1 q10_ => ?_; try clear o59_; obtain ⟨cb, oo, a2, a3, a4⟩ := q10_); rotate_right 1; try clear o200_; (refine e02 o58_ fun a1 q11_ => ?_; try clear o58_; obtain ⟨oo, mm', a2, a3, a4⟩ := q11_)); rotate_right 1; try clear hat)
        · exact .inl h3
        · exact .inr (.inl ⟨a1, oo, mm', hkeep' _ a2 (notcell a2 a3), a3, a4⟩)
        · refine .inr (.inr ⟨a1, cb, oo, a2, hkeep' _ a3 (fun (q : cb = ca) => hy (f.inj x hx y (by rw [a2, h2, q]))), a4⟩)
    · (refine e02 (f.cells y hy) fun g1 q12_ => ?_; obtain ⟨cb, oo', v₁, g2, g3, g4⟩ := q12_)
      by_cases hy' : y = x
      · subst hy'
        rw [h2] at g2; (replace g2 := Option.some.inj g2; subst g2)
        exact ⟨g1, ca, o', some v', h2, hin, hd'⟩
      · exact ⟨g1, cb, oo', v₁, g2, hkeep _ g3 (fun (q : cb = ca) => hy' (f.inj x hx y (by rw [g2, h2, q]))), g4⟩
    · (refine Or.elim (f.loc) (fun q => ?_) (fun o201_ => ?_); rotate_left 1; (refine e22 o201_ fun oC mm g1 g2 => ?_; try clear o201_); rotate_right 1)
      · exact .inl q
      · exact .inr ⟨oC, mm, hkeep _ g1 (notcell (List.mem_append_left _ g1) g2), g2⟩
end Mine
end

section
open PySem PySem.W PyProof.Rows PySem.Calls PyProof.Rows.LCg
set_option Elab.async false
set_option linter.all false
set_option maxRecDepth 100000
set_option maxHeartbeats 1000000
namespace Mine

mutual
noncomputable def V.lt (n : Nat) : V → Bool
  | .obj i => decide (i < n)
  | .tup xs => Vs.lt n xs
  | .lst xs => Vs.lt n xs
  | _ => true
noncomputable def Vs.lt (n : Nat) : List V → Bool
  | [] => true
  | x :: r => x.lt n && Vs.lt n r
end
theorem Vs.lt_iff {n : Nat} : ∀ {xs : List V}, Vs.lt n xs = true ↔ ∀ x ∈ xs, V.lt n x = true
  | [] => by simp [Vs.lt]
  | x :: r => by simp [Vs.lt, Vs.lt_iff (xs := r)]
noncomputable def MO.lt (n : Nat) : MO → Bool
  | .list xs => Vs.lt n xs
  | .dict es => Vs.lt n (es.map (·.2))
  | .inst j => decide (j < n)
  | .idict none => true
  | .idict (some x) => x.lt n
theorem VR.cut {fz : Lg} {ρ : List Addr} (n : Nat) {v : Value} {x : V} (h : VR fz ρ v x) : V.lt n x = true → VR fz (ρ.take n) v x :=
  VR.rec (motive_1 := fun v x _ => V.lt n x = true → VR fz (ρ.take n) v x) (motive_2 := fun vs xs _ => Vs.lt n xs = true → VRs fz (ρ.take n) vs xs)
    (fun _ => .none) (fun b _ => .bool b) (fun i t _ h _ => .int i t h) (fun i t _ h _ => .str i t h) (fun m _ ih q => .tup m (ih (by unfold V.lt at q; exact q))) (fun m _ ih q => .lst m (ih (by unfold V.lt at q; exact q))) (fun m h0 _ => .lstC m h0)
    (fun m q => .obj (by unfold V.lt at q; rw [List.getElem?_take, if_pos (of_decide_eq_true q)]; exact m)) (fun v _ => .con v) (fun _ => .nil)
    (fun _ _ p r q => .cons (p (by unfold Vs.lt at q; exact (Bool.and_eq_true_iff.mp q).1)) (r (by unfold Vs.lt at q; exact (Bool.and_eq_true_iff.mp q).2))) h
theorem VRs.cut {fz : Lg} {ρ : List Addr} (n : Nat) {vs : List Value} {xs : List V} (h : VRs fz ρ vs xs) : Vs.lt n xs = true → VRs fz (ρ.take n) vs xs :=
  VRs.ind (P := fun vs xs => Vs.lt n xs = true → VRs fz (ρ.take n) vs xs) (fun _ => .nil) (fun a _ ih q => .cons (a.cut n (by unfold Vs.lt at q; exact (Bool.and_eq_true_iff.mp q).1)) (ih (by unfold Vs.lt at q; exact (Bool.and_eq_true_iff.mp q).2))) h
theorem ObjR.cut {w : World} {fz : Lg} {ρ : List Addr} (n : Nat) {o : Obj} {mo : MO} (h : ObjR w fz ρ o mo) : MO.lt n mo = true → ObjR w fz (ρ.take n) o mo :=
  ObjR.rec (motive := fun o mo _ => MO.lt n mo = true → ObjR w fz (ρ.take n) o mo) (fun h q => .list (h.cut n q)) (fun h q => .dict (h.map fun _ k => k.cut n q)) (fun h q => .inst (by rw [List.getElem?_take, if_pos (of_decide_eq_true q)]; exact h)) (fun _ => .idict0) (fun h q => .idict1 (h.cut n q)) h
theorem lt_get {α : Type} {l : List α} {i : Nat} {a : α} (h : l[i]? = some a) : decide (i < l.length) = true := decide_eq_true (List.getElem?_eq_some_iff.mp h).1
theorem VR.lt {fz : Lg} {ρ : List Addr} {v : Value} {x : V} (h : VR fz ρ v x) : V.lt ρ.length x = true :=
  VR.rec (motive_1 := fun v x _ => V.lt ρ.length x = true) (motive_2 := fun vs xs _ => Vs.lt ρ.length xs = true)
    rfl (fun _ => rfl) (fun _ _ _ _ => rfl) (fun _ _ _ _ => rfl) (fun _ _ ih => by unfold V.lt; exact ih) (fun _ _ ih => by unfold V.lt; exact ih) (fun _ _ => rfl) (fun m => by unfold V.lt; exact lt_get m) (fun _ => rfl) rfl (fun _ _ p q => by unfold Vs.lt; rw [p, q]; rfl) h
theorem VRs.lt {fz : Lg} {ρ : List Addr} {vs : List Value} {xs : List V} (h : VRs fz ρ vs xs) : Vs.lt ρ.length xs = true :=
  VRs.ind (P := fun vs xs => Vs.lt ρ.length xs = true) rfl (fun a _ ih => by unfold Vs.lt; rw [a.lt, ih]; rfl) h
theorem ObjR.lt {w : World} {fz : Lg} {ρ : List Addr} {o : Obj} {mo : MO} (h : ObjR w fz ρ o mo) : MO.lt ρ.length mo = true :=
  ObjR.rec (motive := fun o mo _ => MO.lt ρ.length mo = true) (fun h => h.lt) (fun h => h.vrs.elim fun _ k => k.lt) (fun h => lt_get h) rfl (fun h => h.lt) h
noncomputable def HOk (H : List MO) : Prop := ∀ mo ∈ H, MO.lt H.length mo = true
theorem ObjsR.ok {w : World} {fz : Lg} {ρ : List Addr} {os : List Obj} {H : List MO} (h : ObjsR w fz ρ os H) : HOk H := fun mo hm => by
  (refine Exists.elim (List.getElem?_of_mem hm) fun i hi => ?_)
  (refine e23 (h.get hi) fun a o h1 h2 h3 => ?_)
  rw [h.lenH]; exact h3.lt

variable {c : Amb} {e : Sc} {vars vars' vars'' : Vars} {H H1 H2 H3 : List MO}

noncomputable abbrev Amb.sub (c : Amb) (qual : Str) (scope : Scope) (L f : Addr) (cdv : Value) : Amb :=
  { c with A₀ := c.A, outer := c.env :: c.outer, dp := c.dp + 1, un := c.un + 3, cn := qual, cs := scope, L := L, a := f, ccd := cdv, cl := [], fm := none }

theorem kts_memX {env : Env} {L b : Addr} {outer : List Env} (hf : env.frame = some L) (hm : b ∈ (env :: outer).filterMap (·.frame)) : b = L ∨ b ∈ outer.filterMap (·.frame) := by
  (refine e12 (List.mem_filterMap.mp hm) fun env' he hf' => ?_)
  (refine Or.elim (List.mem_cons.mp he) (fun o202_ => ?_) (fun he => ?_); subst o202_)
  · rw [hf] at hf'; exact .inl (Option.some.inj hf').symm
  · exact .inr (List.mem_filterMap.mpr ⟨env', he, hf'⟩)

theorem back {c : Amb} {g g1 g1' h h' : Heap} {m : Str → Option Value} {fz fz' mu mu' : Lg} {L' : Addr} {m' : Str → Option Value} (G : Gr c g) (l : Led c.L g h m fz mu)
    (st : g.StaysIn g1) (FG : Fr g c.L g1 m) (hL : ∃ oL es ep, g1.get? c.L = some oL ∧ oL.data = .dict es ep)
    (T : KtsTurn ((c.env :: c.outer).filterMap (·.frame)) g1 g1') (l' : Led L' g1' h' m' fz' mu') :
    ∃ g', KtsTurn c.fs g g' ∧ Gr c g' ∧ Led c.L g' h' m fz' mu' := by
  have nL₀ : g.get? c.L = none := kts_self l.F
  (refine e32 hL fun oL es ep hLg hLd => ?_; try clear hL)
  (refine Exists.elim (T.up hLg) fun sl hs => ?_)
  have F' := l'.F
  (refine e02 (kts_turn_at (h := h') (fs := c.fs) (g := g)
    (fun b hb => by
      (refine e02 (G.B.frames.mem hb) fun _ q13_ => ?_; obtain ⟨o, ho', _⟩ := q13_)
      exact ⟨o, ho'⟩)
    (fun b o e nmem => F'.keep b o (T.other b o (st b o e) (fun q => by
      (refine Or.elim (kts_memX (L := c.L) rfl q) (fun z => ?_) (fun z => ?_))
      · rw [z, nL₀] at e
        exact ns e
      · exact nmem z)))
    (fun b o e hm => by
      (refine Exists.elim (T.up (st b o e)) fun sl' hs' => ?_)
      exact ⟨sl', F'.keep _ _ hs'⟩)) fun T₁ S₁ => ?_)
  have B₃ : Below c.A₀ c.base c.outer (ktsHeap h' c.fs g) := ⟨G.B.stack, fun b o e => T₁.other b o (G.B.stays b o e) (fun hm => by
    rw [(G.B.frames.mem hm).1] at e
    exact ns e), G.B.frames.of_keeps fun b o e _ => by
    (refine Exists.elim (T₁.up e) fun sl' hs' => ?_)
    exact ⟨_, hs', rfl⟩⟩
  refine ⟨_, T₁, ⟨G.ok, B₃, G.D.turn T₁⟩, ⟨⟨?_, S₁, by rw [T₁.size]; exact l.F.above⟩, fun p hp => ⟨(l'.N p hp).1, fun q => ?_, ?_⟩, l'.nd, l'.ap⟩⟩
  · (refine e34 (FG.ns) fun oL' es' ep' h1 h2 h3 h4 => ?_)
    rw [hLg] at h1; (replace h1 := Option.some.inj h1; subst h1)
    exact ⟨_, es', ep', F'.keep _ _ hs, h2, h3, h4⟩
  · have := (l'.N p hp).2.2; rw [q, hs] at this; exact sn this
  · refine T₁.none_ _ ?_
    cases q : g.get? p.1 with
    | none => rfl
    | some o =>
      (refine Exists.elim (T.up (st _ _ q)) fun sl' hs' => ?_)
      have := (l'.N p hp).2.2
      rw [hs'] at this
      exact sn this

inductive Fl where
  | next | brk | cont | ret (v : V)
inductive FlR (fz : Lg) (ρ : List Addr) : Flow → Fl → Prop
  | next : FlR fz ρ .next .next
  | brk : FlR fz ρ .brk .brk
  | cont : FlR fz ρ .cont .cont
  | ret {v : Value} {x : V} : VR fz ρ v x → FlR fz ρ (.ret v) (.ret x)
noncomputable abbrev TS (c : Amb) (e : Sc) (vars : Vars) (H : List MO) (ss : List Stmt) (f : Fl) (vars' : Vars) (H' : List MO) : Prop := Tri c e vars H (execs ss e.env) (fun fz ρ v => FlR fz ρ v f) vars' H'
noncomputable abbrev TS1 (c : Amb) (e : Sc) (vars : Vars) (H : List MO) (s : Stmt) (f : Fl) (vars' : Vars) (H' : List MO) : Prop := Tri c e vars H (exec s e.env) (fun fz ρ v => FlR fz ρ v f) vars' H'

theorem lookup_zip {fz : Lg} {ρ : List Addr} : ∀ {ps : List Str} {vs : List Value} {xs : List V}, VRs fz ρ vs xs → ∀ {x : Str} {v : V}, (ps.zip xs).lookup x = some v → ∃ v', (ps.zip vs).lookup x = some v' ∧ VR fz ρ v' v
  | [], _, _, _, _, _, h => by simp at h
  | _ :: _, _, _, .nil, _, _, h => by simp at h
  | p :: ps, _, _, .cons a r, x, v, h => by
    simp only [List.zip_cons_cons, List.lookup_cons] at h ⊢
    split at h
    · rename_i q; (replace h := Option.some.inj h; subst h); exact ⟨_, rfl, a⟩
    · exact lookup_zip r h

theorem lookup_rev {α β : Type} [BEq α] [LawfulBEq α] : ∀ {l : List (α × β)}, (l.map (·.1)).Nodup → ∀ x, l.reverse.lookup x = l.lookup x
  | [], _, _ => rfl
  | (a, b) :: r, hn, x => by
    rw [List.map_cons, List.nodup_cons] at hn
    rw [List.reverse_cons, List.lookup_append, lookup_rev hn.2 x]
    by_cases h : x = a
    · subst h
      have : r.lookup x = none := by
        rw [List.lookup_eq_none_iff]
        intro p hp
        simp only [bne_iff_ne, ne_eq, beq_eq_false_iff_ne]
        exact fun q => hn.1 (List.mem_map.mpr ⟨p, hp, q.symm⟩)
      rw [this]; simp [List.lookup_cons]
    · have e1 : (x == a) = false := by simpa using h
      rw [List.lookup_cons, e1]
      simp only [List.lookup_cons, e1, List.lookup_nil, Option.or_none]

noncomputable abbrev Amb.at (c : Amb) (qual : Str) (scope : Scope) : Amb := { c with cn := qual, cs := scope, cl := [], fm := none }
theorem meets_def {w : World} {lv n : Nat} {f : Addr} {qual name : Str} {params : Arguments} {body : List Stmt} {scope : Scope} {dV kV doc pm cdv ct oc : Value} {an od : Option Addr} {osl : Array (Option Value)} {xs : List V} {r : V} {H' J : List MO} {ps : List Str}
    (hn1' : 1 ≤ n) (ho : (top0.heap_1 w.params).lookup f = some ⟨oc, od, .func (fnOf name qual params body scope dV kV doc pm an cdv ct), osl⟩) (hcd : codeIn (top0.heap_1 w.params) cdv qual = true)
    (hps : ps.length = xs.length) (hbind : ∀ (s : Shared) (vs : List Value), vs.length = ps.length → (top0.heap_1 w.params).In s.heap → BindsTo s (fnOf name qual params body scope dV kV doc pm an cdv ct) ⟨vs, []⟩ (ps.zip vs))
    (hnd : ps.Nodup) (hloc' : (ps.all fun x => decide (scope.names.lookup x = some NameKind.local)) = true) (hlt : HOk H → HOk H') (hr : Vs.lt H.length xs = true → V.lt H'.length r = true) (hlen : H.length ≤ H'.length)
    (hbody : ∀ (c : Amb), c.w = w → c.n = n → Room (c.at qual scope) lv → HOk H → Vs.lt H.length xs = true → TS (c.at qual scope) ⟨(c.at qual scope).env, []⟩ (ps.zip xs) H body (.ret r) [] (H' ++ J))
    (hco : scope.isCoroutine = false := by rfl) (hgen : scope.isGenerator = false := by rfl) (hk : scope.kind = .function := by rfl) (hcell : ∀ x ∈ scope.names, x.2 ≠ .cell := by decide) : Meets w (lv + 1) n (.ref f) xs H r H' := by
  intro c s m fz ys ρ os g vs Q E hw G htk R l o hv k
  subst hw
  have hloc : ∀ x ∈ ps, scope.names.lookup x = some .local := fun x hx => of_decide_eq_true (List.all_eq_true.mp hloc' x hx)
  have XS : (top0.heap_1 c.w.params).In s.heap := G.X.keeps l.F.keep
  have hvl : vs.length = ps.length := by rw [hv.length, hps]
  have hn1 : ((ps.zip vs).map (·.1)) = ps := by rw [List.map_fst_zip]; lia
  refine codeAny_call_def (fd := fnOf name qual params body scope dV kV doc pm an cdv ct) (body := body) (binds := ps.zip vs) (by show c.dp < recursionLimit; have := R.dp; lia) (XS _ _ ho) rfl (G.T.nolimit.keeps l.F.keep) (codeRec_of XS hcd) rfl (hbind s vs hvl XS) hcell
    (fun x hx => hloc _ (List.of_mem_zip hx).1) (fun h₁ hns hk₁ => ?_) hco hgen hk
  (refine e04 (groundX (R := fun _ _ => True) (A := c.A) (env := c.env) G.B l.F l.N rfl rfl G.ok.hk) fun FG BG st _ => ?_)
  generalize hg1 : hideAll s.heap ((ρ.zip os ++ ys ++ fz).map (·.1)) = g1 at FG BG st
  have hLg : ∃ oL es ep, g1.get? c.L = some oL ∧ oL.data = .dict es ep := by (refine e33 (FG.ns) fun oL es ep a b _ => ?_); exact ⟨oL, es, ep, a, b⟩
  let c' : Amb := { c.sub qual scope s.heap.objs.size f cdv with n := n }
  have l1 : Led s.heap.objs.size g1 h₁ (fun y => (ps.zip vs).reverse.lookup y) fz (ρ.zip os ++ ys) := by
    subst hg1
    refine ⟨⟨hns, fun b o e => hk₁ b o (of_hideAll _ e), Nat.le_of_eq (hideAll_size _ _)⟩, fun p hp => ⟨hk₁ _ _ (l.N p hp).1, Nat.ne_of_lt (Heap.lt_size (l.N p hp).1), hideAll_none _ (List.mem_map_of_mem hp)⟩, l.nd, l.ap⟩
  have D1 : KtsDicts c'.fs g1 := fun b hb => by
    (refine Or.elim (kts_memX (L := c.L) rfl hb) (fun o203_ => ?_) (fun hb => ?_); subst o203_)
    · exact hLg
    · (refine e32 (G.D b hb) fun o es' n' ho' hd' => ?_)
      exact ⟨o, es', n', st b o ho', hd'⟩
  have G1 : Gr c' g1 := ⟨⟨G.ok.XB, G.ok.TB, hk, hn1', Nat.le_add_left 1 c.dp, Nat.le_add_left 3 c.un⟩, BG, D1⟩
  have R1 : Rep c' ⟨c'.env, []⟩ (ps.zip xs) H fz ρ ys g1 h₁ (s.toks + (ps.zip vs).length) := by
    refine ⟨G1, Nat.le_trans htk (Nat.le_add_right _ _), ⟨hk, rfl, rfl⟩, _, os, [], l1, o, ⟨fun x v q => ?_, (fun x hx => absurd hx List.not_mem_nil), (fun x hx => absurd hx List.not_mem_nil), .inl rfl, fun m₀ q => nomatch q⟩⟩
    (refine e12 (lookup_zip hv q) fun v' a b => ?_)
    refine ⟨v', .inl ⟨?_, rfl, ?_⟩, b⟩
    · refine hloc x ?_
      have : ∃ p ∈ ps.zip xs, p.1 = x := by
        rw [List.lookup_eq_some_iff] at q
        (refine e22 q fun l1 l2 e _ => ?_; try clear q)
        exact ⟨(x, v), by rw [e]; simp, rfl⟩
      (refine e12 this fun p hp q1_ => ?_; try clear this; subst q1_)
      exact (List.of_mem_zip hp).1
    · show (ps.zip vs).reverse.lookup x = some v'
      rw [lookup_rev (by rw [hn1]; exact hnd)]; exact a
  have hvl2 : Vs.lt H.length xs = true := by rw [o.lenH]; exact hv.lt
  have hb := hbody c' rfl rfl ⟨by show c.dp + 1 + lv < _; have := R.dp; lia, by show c.un + 3 + 8 * lv + 64 < _; have := R.un; lia⟩ o.ok hvl2
  refine hb _ _ _ _ _ _ _ R1 fun fl h' tk' g1' fz' ρ' T X hfl R2 => ?_
  cases hfl
  rename_i v hvr
  obtain ⟨m2, os2, ls2, l2, o2, f2⟩ := R2.ex
  have l2' : Led s.heap.objs.size g1' h' m2 fz' (ρ'.zip os2 ++ ys) := by
    refine ⟨l2.F, fun p hp => l2.N p ?_, ?_, fun p hp q => l2.ap p hp ?_⟩
    · (refine Or.elim (List.mem_append.mp hp) (fun q => ?_) (fun q => ?_))
      · exact List.mem_append_left _ (List.mem_append_right _ q)
      · exact List.mem_append_right _ q
    · have := l2.nd; rw [List.map_append] at this; exact (List.nodup_append.mp this).2.1
    · rw [List.map_append]; exact List.mem_append_right _ q
  (refine e13 (back G l st FG hLg T l2') fun g' T' G' l3 => ?_)
  have hn : H'.length ≤ ρ'.length := by rw [← o2.lenH]; simp
  have hn' : H'.length ≤ os2.length := by rw [o2.len]; exact hn
  have hcut : ρ'.zip os2 = (ρ'.take H'.length).zip (os2.take H'.length) ++ (ρ'.drop H'.length).zip (os2.drop H'.length) := by
    conv => lhs; rw [← List.take_append_drop H'.length ρ', ← List.take_append_drop H'.length os2]
    exact List.zip_append (by simp; lia)
  have hsub : ∀ p ∈ (ρ'.take H'.length).zip (os2.take H'.length) ++ ys, p ∈ ρ'.zip os2 ++ ys := fun p hp => by
    rw [hcut]
    (refine Or.elim (List.mem_append.mp hp) (fun q => ?_) (fun q => ?_))
    · exact List.mem_append_left _ (List.mem_append_left _ q)
    · exact List.mem_append_right _ q
  have hsubl : List.Sublist ((ρ'.take H'.length).zip (os2.take H'.length) ++ ys) (ρ'.zip os2 ++ ys) := by
    rw [hcut]; exact List.Sublist.append (List.sublist_append_left _ _) (List.Sublist.refl _)
  have l4 : Led c.L g' h' m fz' ((ρ'.take H'.length).zip (os2.take H'.length) ++ ys) := ⟨l3.F, fun p hp => l3.N p (by
      (refine Or.elim (List.mem_append.mp hp) (fun q => ?_) (fun q => ?_))
      · exact List.mem_append_left _ (hsub _ q)
      · exact List.mem_append_right _ q), (hsubl.map _).nodup l3.nd, fun p hp q => l3.ap p hp ((hsubl.map _).subset q)⟩
  have o4 : ObjsR c.w fz' (ρ'.take H'.length) (os2.take H'.length) H' := by
    refine ⟨by simp; lia, by simp; lia, fun i oo mo a b => ?_, fun i es b p q => o2.lo i es b (by
        have hi : i < H'.length := by
          (refine Or.elim (Nat.lt_or_ge i H'.length) (fun z => ?_) (fun z => ?_))
          · exact z
          · rw [List.getElem?_eq_none z] at p; exact ns p
        rw [List.getElem?_append_left hi]; exact p) (by
        have hi : i < H'.length := by
          (refine Or.elim (Nat.lt_or_ge i H'.length) (fun z => ?_) (fun z => ?_))
          · exact z
          · rw [List.getElem?_eq_none z] at p; exact ns p
        rw [List.getElem?_take, if_pos hi] at q; exact q)⟩
    have hi : i < H'.length := by
      (refine Or.elim (Nat.lt_or_ge i H'.length) (fun q => ?_) (fun q => ?_))
      · exact q
      · rw [List.getElem?_eq_none q] at b; exact ns b
    rw [List.getElem?_take, if_pos hi] at a
    exact (o2.at_ i oo mo a (by rw [List.getElem?_append_left hi]; exact b)).cut _ (hlt o.ok mo (List.mem_of_getElem? b))
  have hX : Ext fz fz' ρ (ρ'.take H'.length) := ⟨X.sub, fun i a q => by
    have hi : i < H.length := by
      rw [o.lenH]
      (refine Or.elim (Nat.lt_or_ge i ρ.length) (fun z => ?_) (fun z => ?_))
      · exact z
      · rw [List.getElem?_eq_none z] at q; exact ns q
    rw [List.getElem?_take, if_pos (by lia)]; exact X.pre i a q⟩
  exact k v h' tk' g' fz' _ _ T' G' hX l4 o4 (hvr.cut _ (hr hvl2))
end Mine
end

section
open PySem PySem.W PyProof.Rows PySem.Calls PyProof.Rows.LCg
set_option Elab.async false
set_option linter.all false
set_option maxRecDepth 100000
set_option maxHeartbeats 1000000
namespace Mine
variable {c : Amb} {e : Sc} {vars vars' vars'' : Vars} {H H1 H2 H3 : List MO}

theorem TS_nil : TS c e vars H [] .next vars H := fun s fz ys ρ g Q E R k => wpAny_execs_nil (k .next s.heap s.toks g fz ρ KtsTurn.refl Ext.refl .next R)
theorem TS_next {st : Stmt} {rest : List Stmt} {f : Fl} (h1 : TS1 c e vars H st .next vars' H1) (h2 : TS c e vars' H1 rest f vars'' H2) : TS c e vars H (st :: rest) f vars'' H2 := fun s fz ys ρ g Q E R k => by
  refine wpAny_execs_cons (h1 _ _ _ _ _ _ _ R fun fl hh1 tk1 g1 fz1 ρ1 T1 X1 v1 R1 => ?_)
  cases v1
  exact h2 _ _ _ _ _ _ _ R1 fun v h' tk' g' fz' ρ' T X p R' => k v h' tk' g' fz' ρ' (T1.trans T) (X1.trans X) p R'
theorem TS_ret {st : Stmt} {rest : List Stmt} {x : V} (h1 : TS1 c e vars H st (.ret x) [] H1) : TS c e vars H (st :: rest) (.ret x) [] H1 := fun s fz ys ρ g Q E R k => by
  refine wpAny_execs_cons (h1 _ _ _ _ _ _ _ R fun fl hh1 tk1 g1 fz1 ρ1 T1 X1 v1 R1 => ?_)
  cases v1
  rename_i v hv
  exact k _ hh1 tk1 g1 fz1 ρ1 T1 X1 (.ret hv) R1
theorem TS_seq {st : Stmt} {rest : List Stmt} {f1 f : Fl} {vars1 vars2 : Vars} (h1 : TS1 c e vars H st f1 vars1 H1) (h2 : (f1 = .next ∧ TS c e vars1 H1 rest f vars2 H2) ∨ ((f1 ≠ .next) ∧ f = f1 ∧ vars2 = vars1 ∧ H2 = H1)) : TS c e vars H (st :: rest) f vars2 H2 := by
  (refine Or.elim h2 (fun o204_ => ?_) (fun o205_ => ?_); rotate_left 1; try clear h2; (refine e04 o205_ fun hn q1_ q2_ q3_ => ?_; try clear o205_; subst q1_; subst q2_; subst q3_); rotate_right 1; try clear h2; (refine e02 o204_ fun q4_ h => ?_; try clear o204_; subst q4_))
  · exact TS_next h1 h
  · intro s fz ys ρ g Q E R k
    refine wpAny_execs_cons (h1 _ _ _ _ _ _ _ R fun fl hh1 tk1 g1 fz1 ρ1 T1 X1 v1 R1 => ?_)
    cases v1
    · exact absurd rfl hn
    · exact k _ hh1 tk1 g1 fz1 ρ1 T1 X1 .brk R1
    · exact k _ hh1 tk1 g1 fz1 ρ1 T1 X1 .cont R1
    · rename_i v hv
      exact k _ hh1 tk1 g1 fz1 ρ1 T1 X1 (.ret hv) R1
theorem TS1_assign {x : Str} {px pos : Pos} {value : Expr} {v : V} (h : TE c e vars H (eval value e.env) v H1) (hx : TStore c e x) (hs : swapsWith value (some (.Name x px)) pos.line e.env = pure false := by rfl) :
    TS1 c e vars H (.Assign [.Name x px] value pos) .next (setv x v vars) H1 := fun s fz ys ρ g Q E R k => by
  refine wpAny_Assign_Name (h _ _ _ _ _ _ _ R fun a hh1 tk1 g1 fz1 ρ1 T1 X1 v1 R1 => ?_) hs
  exact store hx R1 v1 fun h' tk' R' => k .next h' tk' g1 fz1 ρ1 T1 X1 .next R'
theorem TS1_return {value : Expr} {pos : Pos} {v : V} (h : TE c e vars H (eval value e.env) v H1) : TS1 c e vars H (.Return (some value) pos) (.ret v) [] H1 := fun s fz ys ρ g Q E R k =>
  wpAny_Return_some (h _ _ _ _ _ _ _ R fun a hh1 tk1 g1 fz1 ρ1 T1 X1 v1 R1 => k _ hh1 tk1 g1 fz1 ρ1 T1 X1 (.ret v1) (R1.forget fun x v q => by simp at q))
theorem TS1_if {t : Expr} {b o : List Stmt} {pos : Pos} {q : Bool} {f : Fl} (h1 : TB c e vars H (isTrue t e.env (eval t e.env)) q H1) (h2 : q = true → TS c e vars H1 b f vars' H2) (h3 : q = false → TS c e vars H1 o f vars' H2) :
    TS1 c e vars H (.If t b o pos) f vars' H2 := fun s fz ys ρ g Q E R k => by
  refine wpAny_If (h1 _ _ _ _ _ _ _ R fun v hh1 tk1 g1 fz1 ρ1 T1 X1 v1 R1 => ?_)
  subst v1
  cases v with
  | true => exact h2 rfl _ _ _ _ _ _ _ R1 fun v h' tk' g' fz' ρ' T X p R' => k v h' tk' g' fz' ρ' (T1.trans T) (X1.trans X) p R'
  | false => exact h3 rfl _ _ _ _ _ _ _ R1 fun v h' tk' g' fz' ρ' T X p R' => k v h' tk' g' fz' ρ' (T1.trans T) (X1.trans X) p R'
noncomputable def V.flat : V → Bool
  | .none | .bool _ | .intP _ _ | .strP _ _ => true
  | _ => false
theorem TS1_expr {value : Expr} {pos : Pos} {v : V} (h : TE c e vars H (eval value e.env) v H1) (hv : v.flat = true := by rfl) (hi : interactive e.env = false := by rfl) (hs : swapsWith value none pos.line e.env = pure false := by rfl) :
    TS1 c e vars H (.Expr value pos) .next vars H1 := fun s fz ys ρ g Q E R k => by
  refine wpAny_Expr (h _ _ _ _ _ _ _ R fun a hh1 tk1 g1 fz1 ρ1 T1 X1 v1 R1 => ?_) hi hs
  have fin := k .next hh1 tk1 g1 fz1 ρ1 T1 X1 .next R1
  cases v1 <;> first | exact fin | exact ft hv

theorem TB_eq {t : Sem Bool} {p q : Bool} (h : TB c e vars H t p H1) (e1 : p = q) : TB c e vars H t q H1 := e1 ▸ h
theorem TB_and0 {pos : Pos} {whole : Sem Value} : TB c e vars H (isTrue (.BoolOp .And [] pos) e.env whole) true H := fun s fz ys ρ g Q E R k =>
  isTrue_and_nil (k _ s.heap s.toks g fz ρ KtsTurn.refl Ext.refl rfl R)
theorem TB_or0 {pos : Pos} {whole : Sem Value} : TB c e vars H (isTrue (.BoolOp .Or [] pos) e.env whole) false H := fun s fz ys ρ g Q E R k =>
  isTrue_or_nil (k _ s.heap s.toks g fz ρ KtsTurn.refl Ext.refl rfl R)
theorem TB_and {a : Expr} {rest : List Expr} {pos : Pos} {whole : Sem Value} {p q : Bool} (h1 : TB c e vars H (isTrue a e.env (eval a e.env)) p H1) (h2 : p = true → TB c e vars H1 (isTrue (.BoolOp .And rest pos) e.env whole) q H2) (h3 : p = false → q = false ∧ H1 = H2) :
    TB c e vars H (isTrue (.BoolOp .And (a :: rest) pos) e.env whole) q H2 := fun s fz ys ρ g Q E R k => by
  refine isTrue_and (h1 _ _ _ _ _ _ _ R fun v hh1 tk1 g1 fz1 ρ1 T1 X1 v1 R1 => ?_)
  subst v1
  cases v with
  | true => exact h2 rfl _ _ _ _ _ _ _ R1 fun v h' tk' g' fz' ρ' T X p R' => k v h' tk' g' fz' ρ' (T1.trans T) (X1.trans X) p R'
  | false =>
    (refine e02 (h3 rfl) fun q2_ q3_ => ?_; subst q2_; subst q3_)
    exact k _ hh1 tk1 g1 fz1 ρ1 T1 X1 rfl R1
theorem TB_or {a : Expr} {rest : List Expr} {pos : Pos} {whole : Sem Value} {p q : Bool} (h1 : TB c e vars H (isTrue a e.env (eval a e.env)) p H1) (h2 : p = false → TB c e vars H1 (isTrue (.BoolOp .Or rest pos) e.env whole) q H2) (h3 : p = true → q = true ∧ H1 = H2) :
    TB c e vars H (isTrue (.BoolOp .Or (a :: rest) pos) e.env whole) q H2 := fun s fz ys ρ g Q E R k => by
  refine isTrue_or (h1 _ _ _ _ _ _ _ R fun v hh1 tk1 g1 fz1 ρ1 T1 X1 v1 R1 => ?_)
  subst v1
  cases v with
  | false => exact h2 rfl _ _ _ _ _ _ _ R1 fun v h' tk' g' fz' ρ' T X p R' => k v h' tk' g' fz' ρ' (T1.trans T) (X1.trans X) p R'
  | true =>
    (refine e02 (h3 rfl) fun q4_ q5_ => ?_; subst q4_; subst q5_)
    exact k _ hh1 tk1 g1 fz1 ρ1 T1 X1 rfl R1
theorem TS1_if' {t : Expr} {b o : List Stmt} {pos : Pos} {q : Bool} {f : Fl} (h1 : TB c e vars H (isTrue t e.env (eval t e.env)) q H1) (h2 : (q = true ∧ TS c e vars H1 b f vars' H2) ∨ (q = false ∧ TS c e vars H1 o f vars' H2)) :
    TS1 c e vars H (.If t b o pos) f vars' H2 := by
  (refine Or.elim h2 (fun o206_ => ?_) (fun o207_ => ?_); rotate_left 1; try clear h2; (refine e02 o207_ fun a h => ?_; try clear o207_); rotate_right 1; try clear h2; (refine e02 o206_ fun a h => ?_; try clear o206_))
  · exact TS1_if h1 (fun _ => h) fun q => by rw [a] at q; exact tf q
  · exact TS1_if h1 (fun q => by rw [a] at q; exact ft q) fun _ => h
theorem TE_if' {t b o : Expr} {pos : Pos} {x : V} {q : Bool} (h1 : TB c e vars H (isTrue t e.env (eval t e.env)) q H1) (h2 : (q = true ∧ TE c e vars H1 (eval b e.env) x H2) ∨ (q = false ∧ TE c e vars H1 (eval o e.env) x H2)) :
    TE c e vars H (eval (.IfExp t b o pos) e.env) x H2 := by
  (refine Or.elim h2 (fun o208_ => ?_) (fun o209_ => ?_); rotate_left 1; try clear h2; (refine e02 o209_ fun a h => ?_; try clear o209_); rotate_right 1; try clear h2; (refine e02 o208_ fun a h => ?_; try clear o208_))
  · exact TE_if h1 (fun _ => h) fun q => by rw [a] at q; exact tf q
  · exact TE_if h1 (fun q => by rw [a] at q; exact ft q) fun _ => h
theorem room_of {lv lv' : Nat} (r : Room c lv) (h : Nat.ble lv' lv = true) : Room c lv' := r.le (Nat.le_of_ble_eq_true h)
theorem PC_m {lv lv' n : Nat} {f : Value} {xs : List V} {r : V} (h : Meets c.w lv n f xs H r H1) (hn : n ≤ c.n) (hr : Room c lv') (hl : Nat.ble lv lv' = true) : PC c e vars H f xs r H1 := PC_meets h hn (room_of hr hl)
end Mine
end

section
open PySem PySem.W PyProof.Rows PySem.Calls PyProof.Rows.LCg
set_option Elab.async false
set_option linter.all false
set_option maxRecDepth 100000
set_option maxHeartbeats 1000000
namespace Mine
variable {c : Amb} {e : Sc} {vars vars' vars'' : Vars} {H H1 H2 H3 : List MO}

noncomputable def Flat (c : Amb) (s : Shared) (t : Sem Value) (z : V) : Prop :=
  ∀ (Q : Value → Shared → Prop) (E : Value → Shared → Prop), (∀ v tk, VR [] [] v z → Q v { s with toks := tk }) → wpAny c.M c.A t Q E s
theorem fin_flat {s : Shared} {t : Sem Value} {z : V} {fz ys : Lg} {ρ : List Addr} {g : Heap} {Q : Value → Shared → Prop} {E : Value → Shared → Prop} (h : Flat c s t z) (R : Rep c e vars H fz ρ ys g s.heap s.toks)
    (k : ∀ (v : Value) (h' : Heap) (tk' : Nat) (g' : Heap) (fz' : Lg) (ρ' : List Addr), KtsTurn c.fs g g' → Ext fz fz' ρ ρ' → VR fz' ρ' v z → Rep c e vars H fz' ρ' ys g' h' tk' → Q v { s with heap := h', toks := tk' }) : wpAny c.M c.A t Q E s := by
  refine wpAny_with_toks (Nat.le_refl s.toks) (wpAny_mono (h _ E fun v tk hv => ?_) (fun _ _ x => x) fun _ _ x _ => x)
  intro hle
  exact k v s.heap tk g fz ρ KtsTurn.refl Ext.refl (hv.ext ⟨fun _ h => absurd h List.not_mem_nil, fun i a h => by simp at h⟩) (R.up hle)

theorem Rep.openN {fz ys : Lg} {ρ : List Addr} {g h : Heap} {tk : Nat} (R : Rep c e vars H fz ρ ys g h tk) : ∃ m news, Fr g c.L h m ∧ News g c.L h news ∧ (∀ p ∈ fz, p ∈ news) ∧
    (∀ (i : Nat) (a : Addr), ρ[i]? = some a → ∃ o, (a, o) ∈ news) ∧
    ∀ (h' : Heap) (D : Addr) (o : Obj), Fr g c.L h' m → News g c.L h' ((D, o) :: news) → (∀ p ∈ news, p.1 < D) → Rep c e vars H ((D, o) :: fz) ρ ys g h' tk := by
  obtain ⟨m, os, xs, l, q, f⟩ := R.ex
  refine ⟨m, (xs ++ (ρ.zip os ++ ys)) ++ fz, l.F, l.N, fun p hp => List.mem_append_right _ hp, fun i a hi => ?_, fun h' D o F' N' hD => ⟨R.gr, R.lo, R.env, m, os, xs, ?_, q.ext Ext.cons, Rep.fm_ext f Ext.cons⟩⟩
  · have hi' : i < os.length := by
      rw [q.len]
      (refine Or.elim (Nat.lt_or_ge i ρ.length) (fun z => ?_) (fun z => ?_))
      · exact z
      · rw [List.getElem?_eq_none z] at hi; exact ns hi
    exact ⟨os[i], List.mem_append_left _ (List.mem_append_right _ (List.mem_append_left _ (zip_mem hi (by simp [hi']))))⟩
  · refine ⟨F', fun p hp => ?_, l.nd, fun p hp hm => ?_⟩
    · (refine Or.elim (List.mem_append.mp hp) (fun z => ?_) (fun z => ?_))
      · exact N' p (.tail _ (List.mem_append_left _ z))
      · (refine Or.elim (List.mem_cons.mp z) (fun o210_ => ?_) (fun z => ?_); subst o210_)
        · exact N' _ (.head _)
        · exact N' p (.tail _ (List.mem_append_right _ z))
    · (refine Or.elim (List.mem_cons.mp hp) (fun o211_ => ?_) (fun hp => ?_); subst o211_)
      · (refine e12 (List.mem_map.mp hm) fun r hr e => ?_)
        have := hD r (List.mem_append_left _ hr)
        rw [e] at this; exact Nat.lt_irrefl _ this
      · exact l.ap p hp hm
theorem Rep.getF {fz ys : Lg} {ρ : List Addr} {g h : Heap} {tk : Nat} (R : Rep c e vars H fz ρ ys g h tk) {a : Addr} {o : Obj} (hm : (a, o) ∈ fz) : h.get? a = some o :=
  let ⟨_, _, _, l, _, _⟩ := R.ex; l.getF hm

theorem TE_sub {value slice : Expr} {pos : Pos} {x y z : V} (h1 : TE c e vars H (eval value e.env) x H1) (h2 : TE c e vars H1 (eval slice e.env) y H2) (h3 : PO c e vars H2 (subscriptTail value slice) x y z H3) :
    TE c e vars H (eval (.Subscript value slice pos) e.env) z H3 := fun s fz ys ρ g Q E R k => by
  refine Subscript_ (h1 _ _ _ _ _ _ _ R fun a hh1 tk1 g1 fz1 ρ1 T1 X1 v1 R1 => ?_)
  refine h2 _ _ _ _ _ _ _ R1 fun b hh2 tk2 g2 fz2 ρ2 T2 X2 v2 R2 => ?_
  exact h3 _ _ _ _ _ _ _ _ _ R2 (v1.ext X2) v2 fun v hh3 tk3 g3 fz3 ρ3 T3 X3 v3 R3 => k v hh3 tk3 g3 fz3 ρ3 ((T1.trans T2).trans T3) ((X1.trans X2).trans X3) v3 R3

section
variable {r q : Tok → Prop} {value slice : Expr}
theorem PO_itemS {x : Str} {i : Int} (h0 : -(x.length : Int) ≤ i) (h1 : i < (x.length : Int)) (hn : x.length ≤ 16777216)
    (hs : ∀ t u, subscripted slice false (.str x t) (.int i u) = operate [.str x t, .int i u] (getItem (.str x t) (.int i u))) : PO c e vars H (subscriptTail value slice) (.strP x r) (.intP i q) (.str (Txt.item x i)) H := fun a b s fz ys ρ g Q E R ha hb k => by
  induction ha using VR.strE; induction hb using VR.intE
  refine fin_flat (fun Q E k => ?_) R k
  refine tail_any (ops := _) (typeIs_str _ _ _) F.slot_str_getitem.lookup (SB.getItem (fitsSsize_of (N := 9223372036854775808) (by lia) (by lia) (Int.le_refl _)) (charAt_isSome h0 h1) (k _ _ (.str _ _ trivial))) (hs _ _)
theorem seqIndex_nat {j n : Nat} (h : j < n) : seqIndex? (j : Int) n = some j := by
  unfold seqIndex?
  have h1 : ¬ ((j : Int) < 0) := by lia
  have h2 : ¬ ((j : Int) ≥ n) := by lia
  simp [h1, h2]
  try lia
theorem VRs.get2 {fz : Lg} {ρ : List Addr} {vs : List Value} {xs : List V} (h : VRs fz ρ vs xs) {j : Nat} {x : V} (hx : xs[j]? = some x) : ∃ v, vs[j]? = some v ∧ VR fz ρ v x ∧ j < vs.length := by
  (refine e12 (h.get hx) fun v a b => ?_)
  refine ⟨v, a, b, ?_⟩
  (refine Or.elim (Nat.lt_or_ge j vs.length) (fun z => ?_) (fun z => ?_))
  · exact z
  · rw [List.getElem?_eq_none z] at a; exact ns a
theorem PO_itemT {xs : List V} {j : Nat} {i : Int} {x : V} (hi : i = (j : Int)) (hx : xs[j]? = some x) (hj : j < 1000000)
    (hs : ∀ a t, subscripted slice false (.ref a) (.int i t) = operate [.ref a, .int i t] (getItem (.ref a) (.int i t))) : PO c e vars H (subscriptTail value slice) (.tup xs) (.intP i q) x H := fun a b s fz ys ρ g Q E R ha hb k => by
  subst hi
  induction ha using VR.tupE with
  | k hm hr =>
    induction hb using VR.intE
    (refine e13 (hr.get2 hx) fun v e1 hv hlt => ?_)
    refine item_tupleT ⟨_, R.getF hm, rfl, _, rfl⟩ (by lia) (by lia) (seqIndex_nat hlt) e1 ?_ (hs _ _)
    exact k v s.heap s.toks g fz ρ KtsTurn.refl Ext.refl hv R
theorem PO_itemL {xs : List V} {j : Nat} {i : Int} {x : V} (hi : i = (j : Int)) (hx : xs[j]? = some x) (hj : j < 1000000)
    (hs : ∀ a t, subscripted slice false (.ref a) (.int i t) = operate [.ref a, .int i t] (getItem (.ref a) (.int i t))) : PO c e vars H (subscriptTail value slice) (.lst xs) (.intP i q) x H := fun a b s fz ys ρ g Q E R ha hb k => by
  subst hi
  induction ha using VR.lstE with
  | k hm hr =>
    induction hb using VR.intE
    (refine e13 (hr.get2 hx) fun v e1 hv hlt => ?_)
    have hl : s.heap.IsList _ _ := ⟨_, R.getF hm, rfl, _, rfl⟩
    refine tail_any hl.typeIs slot_list_getitem.lookup (wpAny_getItem_list hl (by lia) (by lia) (by simpa using e1) ?_) (hs _ _)
    exact k v s.heap s.toks g fz ρ KtsTurn.refl Ext.refl hv R
theorem PO_itemO {n : Nat} {xs : List V} {j : Nat} {i : Int} {x : V} (hH : H[n]? = some (.list xs)) (hi : i = (j : Int)) (hx : xs[j]? = some x) (hj : j < 1000000)
    (hs : ∀ a t, subscripted slice false (.ref a) (.int i t) = operate [.ref a, .int i t] (getItem (.ref a) (.int i t))) : PO c e vars H (subscriptTail value slice) (.obj n) (.intP i q) x H := fun a b s fz ys ρ g Q E R ha hb k => by
  subst hi
  induction ha using VR.objE with
  | k ha =>
    induction hb using VR.intE
    (refine e23 (R.get hH) fun a' o h1 h2 h3 => ?_)
    rw [ha] at h1; (replace h1 := Option.some.inj h1; subst h1)
    cases h3 with
    | list hr =>
      (refine e13 (hr.get2 hx) fun v e1 hv hlt => ?_)
      have hl : s.heap.IsList _ _ := ⟨_, h2, rfl, _, rfl⟩
      refine tail_any hl.typeIs slot_list_getitem.lookup (wpAny_getItem_list hl (by lia) (by lia) (by simpa using e1) ?_) (hs _ _)
      exact k v s.heap s.toks g fz ρ KtsTurn.refl Ext.refl hv R

theorem PO_mulS {x : Str} {i : Int} (L N : Nat) (hx : x.length ≤ L) (hn : i ≤ (N : Int)) (hlo : 0 ≤ i) (hLN : L * N ≤ 16777216) (hN : N ≤ 16777216) : PO c e vars H (binaryOp .Mult) (.strP x r) (.intP i q) (.str (Txt.mul x i)) H := fun a b s fz ys ρ g Q E R ha hb k => by
  induction ha using VR.strE; induction hb using VR.intE
  refine fin_flat (fun Q E k => ?_) R k
  exact SB.mul (mulOk_of L N hx hn (by lia) hN hLN) fun t' k' => k _ _ (.str _ _ trivial)
theorem PO_mulI {i j : Int} (h : Builtin.Int.intBits i ≤ 64 ∨ Builtin.Int.intBits j ≤ 64) : PO c e vars H (binaryOp .Mult) (.intP i r) (.intP j q) (.int (i * j)) H := PO_int fun _ _ s _ _ k => mul_int (k _ _ (.int _ _ trivial)) (h.elim IntMulOk.of_left IntMulOk.of_right)
end

noncomputable def pv : Option Int → Tok → Value
  | none, _ => .none
  | some i, t => .int i t
noncomputable def Part (c : Amb) (e : Sc) (vars : Vars) (H : List MO) (x : Option Expr) (i : Option Int) : Prop := Tri c e vars H (evalPart x e.env) (fun _ _ v => ∃ t, v = pv i t) vars H
theorem Part_none : Part c e vars H none none := fun s fz ys ρ g Q E R k => wpAny_pure (k _ s.heap s.toks g fz ρ KtsTurn.refl Ext.refl ⟨0, rfl⟩ R)
theorem Part_some {x : Expr} {i : Int} {r : Tok → Prop} (h : TE c e vars H (eval x e.env) (.intP i r) H) : Part c e vars H (some x) (some i) := h.mono fun _ _ v hv => by induction hv using VR.intE; exact ⟨_, rfl⟩
noncomputable def PSl (c : Amb) (e : Sc) (vars : Vars) (H : List MO) (value slice : Expr) (x : V) (lo hi : Option Int) (z : V) : Prop :=
  ∀ (a vl vu : Value) (t u : Tok) (s : Shared) (fz ys : Lg) (ρ : List Addr) (g : Heap) (Q : Value → Shared → Prop) (E : Value → Shared → Prop),
    Rep c e vars H fz ρ ys g s.heap s.toks → VR fz ρ a x → vl = pv lo t → vu = pv hi u →
    (∀ (v : Value) (h' : Heap) (tk' : Nat) (g' : Heap) (fz' : Lg) (ρ' : List Addr), KtsTurn c.fs g g' → Ext fz fz' ρ ρ' → VR fz' ρ' v z → Rep c e vars H fz' ρ' ys g' h' tk' → Q v { s with heap := h', toks := tk' }) →
    wpAny c.M c.A (subscriptTail value slice a (.ref s.heap.objs.size)) Q E { s with heap := s.heap.push { cls := .type "slice", data := .fields #[vl, vu, .none] } }
theorem TE_slice {value : Expr} {lower upper : Option Expr} {p pos : Pos} {x z : V} {lo hi : Option Int} (h1 : TE c e vars H (eval value e.env) x H1) (h2 : Part c e vars H1 lower lo) (h3 : Part c e vars H1 upper hi)
    (h4 : PSl c e vars H1 value (.Slice lower upper none p) x lo hi z) : TE c e vars H (eval (.Subscript value (.Slice lower upper none p) pos) e.env) z H1 := fun s fz ys ρ g Q E R k => by
  refine Subscript_ (h1 _ _ _ _ _ _ _ R fun a hh1 tk1 g1 fz1 ρ1 T1 X1 v1 R1 => ?_)
  refine wpAny_Slice (h2 _ _ _ _ _ _ _ R1 fun b hh2 tk2 g2 fz2 ρ2 T2 X2 v2 R2 => ?_)
  refine h3 _ _ _ _ _ _ _ R2 fun d hh3 tk3 g3 fz3 ρ3 T3 X3 v3 R3 => ?_
  refine wpAny_pure ?_
  (refine Exists.elim v2 fun t e2 => ?_; try clear v2)
  (refine Exists.elim v3 fun u e3 => ?_; try clear v3)
  exact h4 a b d t u _ _ _ _ _ _ _ R3 ((v1.ext X2).ext X3) e2 e3 fun v h' tk' g' fz' ρ' T X p' R' => k v h' tk' g' fz' ρ' (((T1.trans T2).trans T3).trans T) (((X1.trans X2).trans X3).trans X) p' R'
theorem PSl_str {value lower upper} {p : Pos} {x : Str} {r : Tok → Prop} {lo hi : Option Int} (hsz : x.length ≤ 16777216) : PSl c e vars H value (.Slice lower upper none p) (.strP x r) lo hi (.str (Txt.slice x lo hi)) := fun a vl vu t u s fz ys ρ g Q E R ha e1 e2 k => by
  induction ha using VR.strE
  rename_i tx _
  refine wpAny_with_toks (Nat.le_refl s.toks) ?_
  have key : wpAny c.M c.A (getItem (.str x tx) (.ref s.heap.objs.size)) (fun v s' => s.toks ≤ s'.toks → Q v s') (fun v s' => s.toks ≤ s'.toks → E v s') { s with heap := s.heap.push { cls := .type "slice", data := .fields #[vl, vu, .none] } } := by
    refine wpAny_getItem_str_slice (l := lo.map fun i => (i, t)) (u := hi.map fun i => (i, u)) (st := none) ⟨_, Heap.get?_push_size _ rfl, rfl, ?_⟩ rfl ?_
    · subst e1 e2; cases lo <;> cases hi <;> rfl
    · have : ∀ t' k', (s.toks ≤ k' → Q (.str (Txt.slice x lo hi) t') { s with heap := s.heap.push { cls := .type "slice", data := .fields #[vl, vu, .none] }, toks := k' }) := fun t' k' hle =>
        k _ _ k' g fz ρ KtsTurn.refl Ext.refl (.str _ _ trivial) ((R.push _).up hle)
      have hh : sliceMade x tx (lo.map fun i => (i, t)) (hi.map fun i => (i, u)) none = if ((1 : Int) == 1 && (Builtin.Str.strSliceIndices lo hi 1 x.length).length == x.length) = true then .val (.str x tx) else .str ⟨((Builtin.Str.strSliceIndices lo hi 1 x.length).filterMap (x.cps[·]?)).toArray⟩ := by
        cases lo <;> cases hi <;> rfl
      rw [hh]
      refine post_val_or_str ⟨Nat.le_trans (Txt.slice_le x _ _) hsz, fun t' k' => this t' k'⟩
  exact tail_any (typeIs_str _ _ _) F.slot_str_getitem.lookup key (by rfl)
end Mine
end

section
open PySem PySem.W PyProof.Rows PySem.Calls PyProof.Rows.LCg
set_option Elab.async false
set_option linter.all false
set_option maxRecDepth 100000
set_option maxHeartbeats 1000000
namespace Mine
variable {c : Amb} {e : Sc} {vars vars' vars'' : Vars} {H H1 H2 H3 : List MO}

noncomputable def Mth (c : Amb) (e : Sc) (vars : Vars) (H : List MO) (x : V) (name : Str) (id : String) : Prop :=
  ∀ (v : Value) (s : Shared) (fz ys : Lg) (ρ : List Addr) (g : Heap), Rep c e vars H fz ρ ys g s.heap s.toks → VR fz ρ v x →
    ∃ T, PlainAttrs T ∧ Slot T name id ∧ typeOf (.builtin id) = pure (.type "method_descriptor") ∧ s.TypeIs v T ∧ (∀ a, v = .ref a → ∃ ob, s.heap.get? a = some ob ∧ ob.dict = none)
theorem Mth_str {x : Str} {r : Tok → Prop} {name : Str} {id : String} (h1 : Slot "str" name id) (h2 : typeOf (.builtin id) = pure (.type "method_descriptor")) : Mth c e vars H (.strP x r) name id := fun v s fz ys ρ g R hv => by
  induction hv using VR.strE
  exact ⟨"str", F.plainAttrs_str, h1, h2, typeIs_str _ _ _, fun _ e => nomatch e⟩
theorem Mth_list {i : Nat} {xs : List V} {name : Str} {id : String} (hH : H[i]? = some (.list xs)) (h1 : Slot "list" name id) (h2 : typeOf (.builtin id) = pure (.type "method_descriptor")) : Mth c e vars H (.obj i) name id := fun v s fz ys ρ g R hv => by
  induction hv using VR.objE with
  | k ha =>
    (refine e23 (R.get hH) fun a' o e1 e2 e3 => ?_)
    rw [ha] at e1; (replace e1 := Option.some.inj e1; subst e1)
    cases e3
    exact ⟨"list", F.plainAttrs_list, h1, h2, ⟨_, e2, rfl⟩, fun a q => by cases q; exact ⟨_, e2, rfl⟩⟩
theorem TE_meth {o : Expr} {name : Str} {apos pos : Pos} {a0 : Expr} {args : List Expr} {x r : V} {xs : List V} {id : String} (ho : TE c e vars H (eval o e.env) x H1) (hm : Mth c e vars H1 x name id)
    (ha : TEs c e vars H1 (spliced (backTo pos (starEach (a0 :: args) e.env))) xs H2) (hc : PC c e vars H2 (.builtin id) (x :: xs) r H3)
    (hbase : attributeBase o name e.env (eval o e.env) = eval o e.env)
    (hfew : ((backTo pos (starEach (a0 :: args) e.env)).all (fun x => !x.1) && (backToKw pos (keywordEach [] e.env)).all (fun x => x.1.isSome)
      && decide ((a0 :: args).length + ([] : List Keyword).length + (if ([] : List Keyword).isEmpty then 0 else 1) < 30)) = true)
    (hline : (apos.endLine == pos.line) = true) (hp : (backTo pos (starEach args e.env)).any (·.1) = false) (he : starEach (a0 :: args) e.env = (false, eval a0 e.env) :: starEach args e.env) : TE c e vars H (eval (.Call (.Attribute o name apos) (a0 :: args) [] pos) e.env) r H3 := fun s fz ys ρ g Q E R k => by
  refine wpAny_Call_method_lateS hbase hfew hline (ho _ _ _ _ _ _ _ R fun v hh1 tk1 g1 fz1 ρ1 T1 X1 v1 R1 => ?_)
  (refine e15 (hm v { s with heap := hh1, toks := tk1 } _ _ _ _ R1 v1) fun T p1 p2 p3 p4 p5 => ?_)
  refine ⟨T, id, p1, p2, p3, p4, p5, ?_⟩
  rw [he] at ha ⊢
  refine callWith_of (P := fun h => (top0.heap_1 c.w.params).In h) (by show ((false || (backTo pos (starEach args e.env)).any (·.1)) || false) = false; rw [hp]; rfl) Kept.builtin ?_
  refine evalArgs_plain ?_
  refine ha _ _ _ _ _ _ _ R1 fun b hh2 tk2 g2 fz2 ρ2 T2 X2 v2 R2 => ⟨R2.In, ?_⟩
  exact hc _ _ _ _ _ _ _ _ R2 (.cons (v1.ext X2) v2) fun v h' tk' g' fz' ρ' T X p R' => k v h' tk' g' fz' ρ' ((T1.trans T2).trans T) ((X1.trans X2).trans X) p R'
theorem TE_meth0 {o : Expr} {name : Str} {apos pos : Pos} {x r : V} {id : String} (ho : TE c e vars H (eval o e.env) x H1) (hm : Mth c e vars H1 x name id) (hc : PC c e vars H1 (.builtin id) [x] r H3)
    (hbase : attributeBase o name e.env (eval o e.env) = eval o e.env)
    (hfew : ((backTo pos (starEach [] e.env)).all (fun x => !x.1) && (backToKw pos (keywordEach [] e.env)).all (fun x => x.1.isSome)
      && decide (([] : List Expr).length + ([] : List Keyword).length + (if ([] : List Keyword).isEmpty then 0 else 1) < 30)) = true)
    (hline : (apos.endLine == pos.line) = true) : TE c e vars H (eval (.Call (.Attribute o name apos) [] [] pos) e.env) r H3 := fun s fz ys ρ g Q E R k => by
  refine wpAny_Call_method_lateS hbase hfew hline (ho _ _ _ _ _ _ _ R fun v hh1 tk1 g1 fz1 ρ1 T1 X1 v1 R1 => ?_)
  (refine e15 (hm v { s with heap := hh1, toks := tk1 } _ _ _ _ R1 v1) fun T p1 p2 p3 p4 p5 => ?_)
  refine ⟨T, id, p1, p2, p3, p4, p5, ?_⟩
  refine callWith_of (P := fun h => (top0.heap_1 c.w.params).In h) rfl Kept.builtin (evalArgs_nil3 ⟨R1.In, ?_⟩)
  exact hc _ _ _ _ _ _ _ _ R1 (.cons v1 .nil) fun v h' tk' g' fz' ρ' T X p R' => k v h' tk' g' fz' ρ' (T1.trans T) (X1.trans X) p R'
section
variable {r q : Tok → Prop}
theorem PC_flat1 {f : Value} {x z : V} (h : ∀ (v : Value) (s : Shared), VR [] [] v x → Flat c s (call f [v]) z) (hx : ∀ fz ρ v, VR fz ρ v x → VR [] [] v x) : PC c e vars H f [x] z H := fun vs s fz ys ρ g Q E R hv k => by
  induction hv using VRs.consE with
  | k a r =>
    induction r using VRs.nilE
    exact fin_flat (h _ _ (hx _ _ _ a)) R k
theorem flatS {x : Str} : ∀ fz ρ v, VR fz ρ v (.strP x r) → VR [] [] v (.strP x r) := fun _ _ _ h => by induction h using VR.strE; exact .str _ _ (by assumption)
theorem flatI {x : Int} : ∀ fz ρ v, VR fz ρ v (.intP x r) → VR [] [] v (.intP x r) := fun _ _ _ h => by induction h using VR.intE; exact .int _ _ (by assumption)
theorem PC_lenS {x : Str} (h : x.length ≤ 16777216) : PC c e vars H (.builtin "len") [.strP x r] (.int x.length) H := PC_flat1 (fun v s hv Q E k => by induction hv using VR.strE; exact P.len_str (by lia) (k _ _ (.int _ _ trivial))) flatS
theorem PC_strI {i : Int} (h0 : i.natAbs.log2 < 1920) : PC c e vars H (.type "str") [.intP i r] (.str (Str.ofString (toString i))) H := PC_flat1 (fun v s hv Q E k => by induction hv using VR.intE; exact P.str_of_int h0 (k _ _ (.str _ _ trivial))) flatI
theorem PC_intS {x : Str} {n : Int} (hn : PySem.intText? x = some n) (hl : x.length ≤ 640) : PC c e vars H (.type "int") [.strP x r] (.int n) H := PC_flat1 (fun v s hv Q E k => by induction hv using VR.strE; exact KIN.call_text hn hl (k _ _ (.int _ _ trivial))) flatS
theorem PC_lower {x : Str} (hx : x.length ≤ 5592405) : PC c e vars H (.builtin "str.lower") [.strP x r] (.str (Txt.lower x)) H := PC_flat1 (fun v s hv Q E k => by induction hv using VR.strE; exact SCL.lower hx fun _ => k _ _ (.str _ _ trivial)) flatS
theorem PC_find {x y : Str} : PC c e vars H (.builtin "str.find") [.strP x r, .strP y q] (.int (Txt.find x y)) H := fun vs s fz ys ρ g Q E R hv k => by
  induction hv using VRs.consE with
  | k a b =>
    induction b using VRs.consE with
    | k b d =>
      induction d using VRs.nilE; induction a using VR.strE; induction b using VR.strE
      exact fin_flat (fun Q E k => SC.find (k _ _ (.int _ _ trivial))) R k
theorem PC_lenF {xs : List V} (h : xs.length ≤ 16777216) : PC c e vars H (.builtin "len") [.lst xs] (.int xs.length) H := fun vs s fz ys ρ g Q E R hv k => by
  induction hv using VRs.consE with
  | k a b =>
    induction b using VRs.nilE
    induction a using VR.lstE with
    | k hm hr =>
      refine fin_flat (fun Q E k => ?_) R k
      have hl : s.heap.IsList _ _ := ⟨_, R.getF hm, rfl, _, rfl⟩
      refine call_len_list hl (by rw [List.size_toArray, hr.length]; lia) ?_
      rw [List.size_toArray, hr.length]
      exact k _ _ (.int _ _ trivial)
theorem PC_lenO {i : Nat} {xs : List V} (hH : H[i]? = some (.list xs)) (h : xs.length ≤ 16777216) : PC c e vars H (.builtin "len") [.obj i] (.int xs.length) H := fun vs s fz ys ρ g Q E R hv k => by
  induction hv using VRs.consE with
  | k a b =>
    induction b using VRs.nilE
    induction a using VR.objE with
    | k ha =>
      (refine e23 (R.get hH) fun a' o e1 e2 e3 => ?_)
      rw [ha] at e1; (replace e1 := Option.some.inj e1; subst e1)
      cases e3 with
      | list hr =>
        refine fin_flat (fun Q E k => ?_) R k
        have hl : s.heap.IsList _ _ := ⟨_, e2, rfl, _, rfl⟩
        refine call_len_list hl (by rw [List.size_toArray, hr.length]; lia) ?_
        rw [List.size_toArray, hr.length]
        exact k _ _ (.int _ _ trivial)
theorem VRs_strs {fz : Lg} {ρ : List Addr} : ∀ l : List (Str × Tok), VRs fz ρ (strValues l) ((l.map (·.1)).map V.str)
  | [] => .nil
  | (x, t) :: r => .cons (.str x t trivial) (VRs_strs r)
theorem PC_split {x y : Str} (hy : (y.length == 0) = false) (hx : x.length + 2 ≤ 16777216) : PC c e vars H (.builtin "str.split") [.strP x r, .strP y q] (.lst ((Txt.split x y).map V.str)) H := fun vs s fz ys ρ g Q E R hv k => by
  induction hv using VRs.consE with
  | k a b =>
    induction b using VRs.consE with
    | k b d =>
      induction d using VRs.nilE; induction a using VR.strE; induction b using VR.strE
      (refine e25 (R.openN) fun m news F' N' _ _ ad => ?_)
      refine wpAny_with_toks (Nat.le_refl s.toks) (splitN1 F' N' hy (fun l h' k' e1 F2 N2 => ?_) hx)
      intro hle
      refine k _ h' k' g _ ρ KtsTurn.refl Ext.cons (.lst (n := 0) (.head _) ?_) ((ad h' _ _ F2 N2 fun p hp => Heap.lt_size (N' p hp).1).up hle)
      rw [← e1]
      exact VRs_strs l
theorem PC_join {x : Str} {l : List Str} (hok : JoinOk x l = true) : PC c e vars H (.builtin "str.join") [.strP x r, .lst (l.map V.str)] (.str (Txt.join x l)) H := fun vs s fz ys ρ g Q E R hv k => by
  induction hv using VRs.consE with
  | k a b =>
    induction b using VRs.consE with
    | k b d =>
      induction d using VRs.nilE; induction a using VR.strE
      induction b using VR.lstE with
      | k hm hr =>
        refine fin_flat (fun Q E k => ?_) R k
        have : ∀ (l : List Str) (vs : List Value), VRs fz ρ vs (l.map V.str) → ∃ lt : List (Str × Tok), vs = strValues lt ∧ lt.map (·.1) = l := by
          intro l
          induction l with
          | nil => intro vs h; induction h using VRs.nilE; exact ⟨[], rfl, rfl⟩
          | cons x l ih =>
            intro vs h
            induction h using VRs.consE with
            | k a b =>
              (refine e12 (ih _ b) fun lt e1 e2 => ?_)
              induction a using VR.strE with
              | k t _ => exact ⟨(x, t) :: lt, by rw [e1]; rfl, by rw [List.map_cons, e2]⟩
        (refine e12 (this l _ hr) fun lt e1 e2 => ?_)
        subst e1
        exact SC.join (texts := l) ⟨_, R.getF hm, rfl, _, rfl⟩ e2 hok fun t' k' => k _ _ (.str _ _ trivial)
end
theorem TE_replace {o : Expr} {apos pos : Pos} {x y z : Str} {r : Tok → Prop} {k1 k2 : Nat} {p1 p2 : Pos} (ho : TE c e vars H (eval o e.env) (.strP x r) H1)
    (hx : x.length ≤ 1048576) (hz : z.length ≤ 14) (hyz : (y == z) = false) (hn : 1 ≤ c.n)
    (hbase : attributeBase o (Str.ofString "replace") e.env (eval o e.env) = eval o e.env) (hline : (apos.endLine == pos.line) = true)
    (hs : starEach [.Constant (.str y) k1 p1, .Constant (.str z) k2 p2] e.env = [(false, eval (.Constant (.str y) k1 p1) e.env), (false, eval (.Constant (.str z) k2 p2) e.env)]) :
    TE c e vars H (eval (.Call (.Attribute o (Str.ofString "replace") apos) [.Constant (.str y) k1 p1, .Constant (.str z) k2 p2] [] pos) e.env) (.str (Txt.replace x y z)) H1 := fun s fz ys ρ g Q E R k => by
  refine wpAny_Call_method_lateS hbase (by rw [hs]; rfl) hline (ho _ _ _ _ _ _ _ R fun v hh1 tk1 g1 fz1 ρ1 T1 X1 v1 R1 => ?_)
  induction v1 using VR.strE
  refine ⟨"str", "str.replace", F.plainAttrs_str, F.slot_str_replace, F.type_str_replace, typeIs_str _ _ _, (fun _ e => nomatch e), ?_⟩
  rw [hs]
  refine callWith_of (P := fun h => (top0.heap_1 c.w.params).In h) rfl Kept.builtin ?_
  refine evalArgs_plain (spliced_cons (wpAny_Constant_str (env := e.env) (k := k1) (pos := p1) (spliced_cons (wpAny_Constant_str (env := e.env) (k := k2) (pos := p2) (spliced_nil ⟨R1.In, ?_⟩)))))
  have lo := R1.lo
  refine wpAny_with_toks (Nat.le_refl _) (SC.replace (by show tk1 ≠ 0; lia) (by show tk1 + 1 ≠ 0; lia) (by show tk1 ≠ tk1 + 1; lia) hyz (by have h1 : (x.length + 1) * z.length ≤ (x.length + 1) * 14 := Nat.mul_le_mul_left _ hz; lia) fun t' k' => ?_)
  intro hle
  exact k _ _ k' g1 fz1 ρ1 T1 X1 (.str _ _ trivial) (R1.up (by show tk1 ≤ _; have : tk1 + 1 + 1 ≤ k' := hle; lia))
end Mine
end

section
open PySem PySem.W PyProof.Rows PySem.Calls PyProof.Rows.LCg
set_option Elab.async false
set_option linter.all false
set_option maxRecDepth 100000
set_option maxHeartbeats 1000000
namespace Mine
variable {c : Amb} {e : Sc} {vars vars' vars'' : Vars} {H H1 H2 H3 : List MO}
noncomputable abbrev lit (s : String) : Str := Str.ofString s
theorem len_item (x : Str) (i : Int) : (Txt.item x i).length = 1 := rfl
theorem len_mul3 (x : Str) (i : Int) : (Txt.mul (Txt.item x i) 3).length = 3 := by
  have e := PyProof.Rows.len_mul (Txt.item x i) 3
  rw [len_item] at e
  simp at e
  lia
theorem log_of {i : Int} (h : -1000000 < i ∧ i < 1000000) : i.natAbs.log2 < 1920 := by
  have : i.natAbs < 2 ^ 20 := by lia
  by_cases h0 : i.natAbs = 0
  · rw [h0]; decide
  · have := (Nat.log2_lt h0 (k := 20)).mpr this
    lia
theorem PO_itemS' {r q : Tok → Prop} {value slice : Expr} {x : Str} {i : Int} {n : Nat} (hk : x.length = n) (h0 : -(n : Int) ≤ i) (h1 : i < (n : Int)) (hn : n ≤ 16777216)
    (hs : ∀ t u, subscripted slice false (.str x t) (.int i u) = operate [.str x t, .int i u] (getItem (.str x t) (.int i u))) : PO c e vars H (subscriptTail value slice) (.strP x r) (.intP i q) (.str (Txt.item x i)) H :=
  PO_itemS (by lia) (by lia) (by lia) hs
theorem PO_mulS' {r q : Tok → Prop} {x : Str} {i : Int} (hx : x.length = 1) (hn : 0 ≤ i ∧ i ≤ 1000) : PO c e vars H (binaryOp .Mult) (.strP x r) (.intP i q) (.str (Txt.mul x i)) H :=
  PO_mulS 1 1000 (by lia) (by lia) (by lia) (by decide) (by decide)
theorem TStore.lo {x : Str} (h : e.env.kindOf x = some .local) : TStore c e x := .inl h
theorem TStore.ow {x : Str} (h : x ∈ e.own) : TStore c e x := .inr h
theorem len_num {n : Int} (h0 : 0 ≤ n) (h : n < 10 ^ 10) : (Str.ofString (toString n)).length ≤ 10 := KT.len_num h0 h
end Mine
end

section
open PySem PySem.W PyProof.Rows PySem.Calls PyProof.Rows.LCg
set_option Elab.async false
set_option linter.all false
set_option maxRecDepth 100000
set_option maxHeartbeats 1000000
namespace Mine
variable {c : Amb} {e : Sc} {vars vars' vars'' : Vars} {H H1 H2 H3 : List MO}

noncomputable def MeetsX (w : World) (lv n : Nat) (f : Value) (xs : List V) (H : List MO) (C : Addr) : Prop :=
  ∀ (c : Amb) (s : Shared) (m : Str → Option Value) (fz ys : Lg) (ρ : List Addr) (os : List Obj) (g : Heap) (vs : List Value) (Q E : Value → Shared → Prop),
    c.w = w → Gr c g → n ≤ s.toks → Room c lv → c.cl = [] → Led c.L g s.heap m fz (ρ.zip os ++ ys) → ObjsR w fz ρ os H → VRs fz ρ vs xs →
    (∀ (x t : Addr) (ws : List Value) (h' : Heap) (tk' : Nat) (G g₂ : Heap) (fz' : Lg) (os' : List Obj), RaisedS c.base G (c.env :: c.outer) x (.ref C) t ws ((ρ.zip os' ++ ys) ++ fz') h' → Fr g₂ c.L G m → G.UpToSlots h' →
      KtsTurn c.fs g g₂ → Gr c g₂ → Ext fz fz' ρ ρ → ObjsR w fz' ρ os' H → ((ρ.zip os' ++ ys).map (·.1)).Nodup → (∀ p ∈ fz', p.1 ∉ (ρ.zip os' ++ ys).map (·.1)) → E (.ref x) { s with heap := h', toks := tk' }) →
    wpAny c.M c.A (call f vs) Q E s
noncomputable def TX (c : Amb) (e : Sc) (vars : Vars) (H : List MO) {α : Type} (t : Sem α) (C : Addr) : Prop :=
  ∀ (s : Shared) (fz ys : Lg) (ρ : List Addr) (g : Heap) (Q : α → Shared → Prop) (E : Value → Shared → Prop),
    Rep c e vars H fz ρ ys g s.heap s.toks →
    (∀ (h h' : Heap) (x : Addr) (ws : List Value) (tk' : Nat) (fz' : Lg) (ρ' : List Addr) (g' : Heap), KtsTurn c.fs g g' → Ext fz fz' ρ ρ' → Rep c e [] H fz' ρ' ys g' h tk' → Heap.MadeExcOf h h' x (.ref C) ws → E (.ref x) { s with heap := h', toks := tk' }) →
    wpAny c.M c.A t Q E s
theorem TX_next {st : Stmt} {rest : List Stmt} {C : Addr} (h1 : TS1 c e vars H st .next vars' H) (h2 : TX c e vars' H (execs rest e.env) C) : TX c e vars H (execs (st :: rest) e.env) C := fun s fz ys ρ g Q E R k => by
  refine wpAny_execs_cons (h1 _ _ _ _ _ _ _ R fun fl hh1 tk1 g1 fz1 ρ1 T1 X1 v1 R1 => ?_)
  cases v1
  exact h2 _ _ _ _ _ _ _ R1 fun h h' x ws tk' fz' ρ' g' T X R' hx => k h h' x ws tk' fz' ρ' g' (T1.trans T) (X1.trans X) R' hx
theorem TX_here {st : Stmt} {rest : List Stmt} {C : Addr} (h1 : TX c e vars H (exec st e.env) C) : TX c e vars H (execs (st :: rest) e.env) C := fun s fz ys ρ g Q E R k => wpAny_execs_cons (h1 _ _ _ _ _ _ _ R k)
theorem TX_if {t : Expr} {b o : List Stmt} {pos : Pos} {C : Addr} (h1 : TB c e vars H (isTrue t e.env (eval t e.env)) true H) (h2 : TX c e vars H (execs b e.env) C) : TX c e vars H (exec (.If t b o pos) e.env) C := fun s fz ys ρ g Q E R k => by
  refine wpAny_If (h1 _ _ _ _ _ _ _ R fun v hh1 tk1 g1 fz1 ρ1 T1 X1 v1 R1 => ?_)
  subst v1
  exact h2 _ _ _ _ _ _ _ R1 fun h h' x ws tk' fz' ρ' g' T X R' hx => k h h' x ws tk' fz' ρ' g' (T1.trans T) (X1.trans X) R' hx
theorem var_raw {x : Str} {v : V} {pos : Pos} (hv : vars.lookup x = some v) (hd : (x == ("__debug__" : Str)) = false) {s : Shared} {fz ys : Lg} {ρ : List Addr} {g : Heap} {Q : Value → Shared → Prop} {E : Value → Shared → Prop}
    (R : Rep c e vars H fz ρ ys g s.heap s.toks) (k : ∀ v', VR fz ρ v' v → Q v' s) : wpAny c.M c.A (eval (.Name x pos) e.env) Q E s := by
  obtain ⟨m, os, xs, l, o, f⟩ := R.ex
  (refine e12 (f.vars x v hv) fun v' hat hr => ?_)
  have fin : Q v' s := k v' hr
  have hmem : ∀ {a : Addr} {o : Obj}, (a, o) ∈ xs ++ ys → s.heap.get? a = some o := fun hm => l.getM (by
    (refine Or.elim (List.mem_append.mp hm) (fun q => ?_) (fun q => ?_))
    · exact List.mem_append_left _ q
    · exact List.mem_append_right _ (List.mem_append_right _ q))
  refine wpAny_Name ?_ hd
  (refine Or.elim hat (fun o212_ => ?_) (fun o213_ => ?_); rotate_left 1; try clear hat; (refine Or.elim o213_ (fun o60_ => ?_) (fun o61_ => ?_); rotate_left 1; try clear o213_; (refine e02 o61_ fun h1 q14_ => ?_; try clear o61_; obtain ⟨ca, o, h2, h3, h4⟩ := q14_); rotate_right 1; try clear o213_; (refine e02 o60_ fun h1 q15_ => ?_; try clear o60_; obtain ⟨o, mm, h2, h3, h4⟩ := q15_)); rotate_right 1; try clear hat; (refine e03 o212_ fun h1 h2 h3 => ?_; try clear o212_))
  · exact wpAny_loadName_local R.env.hk h1 (h2 ▸ l.F.ns) h3 fin
  · exact wpAny_loadName_local R.env.hk h1 (h3.ns (hmem h2)) h4 fin
  · (refine Or.elim h1 (fun h1 => ?_) (fun o214_ => ?_); rotate_left 1; try clear h1; (refine e02 o214_ fun h1 hn => ?_; try clear o214_); rotate_right 1)
    · exact wpAny_loadName_cell R.env.hk h1 h2 ⟨o, hmem h3, h4⟩ fin
    · exact wpAny_loadName_free R.env.hk h1 h2 ⟨o, hmem h3, h4⟩ fin hn
theorem TX_raise {x y : Str} {C : Addr} {newId : String} {np cpos pos p2 : Pos} {v : V} (hcl : e.env = envOf c.cn c.cs c.L c.a c.ccd) (hns : nsIn (top0.heap_1 c.w.params) mainGlobals x = some (some (.ref C)))
    (hex : excIn (top0.heap_1 c.w.params) C [.type "Exception", .type "BaseException", .type "object"] newId = true) (hnew : newId = "Exception.__new__")
    (hv : vars.lookup y = some v) (hdy : (y == ("__debug__" : Str)) = false)
    (hx : e.env.kindOf x = some .globalImplicit) (hd : (x == ("__debug__" : Str)) = false) : TX c e vars H (exec (.Raise (some (.Call (.Name x np) [.Name y p2] [] cpos)) none pos) e.env) C := fun s fz ys ρ g Q E R k => by
  subst hnew
  obtain ⟨m, os, ls, l, o, f⟩ := R.ex
  have hk := R.env.hk
  have hraw := fun Q E k => var_raw (c := c) (pos := p2) (Q := Q) (E := E) hv hdy R k
  rw [hcl] at hx hk hraw ⊢
  refine Raise_own (B := "Exception") l.F R.gr.T.g (own_of_in R.gr.X (topRead_of R.gr.T) hns hex) PySem.F.excBase_Exception rfl ?_ rfl rfl hk hx hd
  refine spliced_cons (hraw _ _ fun v' hv' => spliced_nil ⟨?_, l.F.keep, fun h' x hx => ?_⟩)
  · show 1 ≤ sizeLine; decide
  · exact k s.heap h' x _ s.toks fz ρ g KtsTurn.refl Ext.refl (R.forget fun x v q => by simp at q) hx

theorem backG {c : Amb} {g g1 g1' h : Heap} {m : Str → Option Value} {fz mu : Lg} (G : Gr c g) (l : Led c.L g h m fz mu)
    (st : g.StaysIn g1) (FG : Fr g c.L g1 m) (hL : ∃ oL es ep, g1.get? c.L = some oL ∧ oL.data = .dict es ep)
    (T : KtsTurn ((c.env :: c.outer).filterMap (·.frame)) g1 g1') :
    ∃ g', KtsTurn c.fs g g' ∧ Gr c g' ∧ Fr g' c.L g1' m := by
  have nL₀ : g.get? c.L = none := kts_self l.F
  (refine e32 hL fun oL es ep hLg hLd => ?_; try clear hL)
  (refine Exists.elim (T.up hLg) fun sl hs => ?_)
  (refine e02 (kts_turn_at (h := g1') (fs := c.fs) (g := g)
    (fun b hb => by
      (refine e02 (G.B.frames.mem hb) fun _ q16_ => ?_; obtain ⟨o, ho', _⟩ := q16_)
      exact ⟨o, ho'⟩)
    (fun b o e nmem => (T.other b o (st b o e) (fun q => by
      (refine Or.elim (kts_memX (L := c.L) rfl q) (fun z => ?_) (fun z => ?_))
      · rw [z, nL₀] at e
        exact ns e
      · exact nmem z)))
    (fun b o e hm => T.up (st b o e))) fun T₁ S₁ => ?_)
  have B₃ : Below c.A₀ c.base c.outer (ktsHeap g1' c.fs g) := ⟨G.B.stack, fun b o e => T₁.other b o (G.B.stays b o e) (fun hm => by
    rw [(G.B.frames.mem hm).1] at e
    exact ns e), G.B.frames.of_keeps fun b o e _ => by
    (refine Exists.elim (T₁.up e) fun sl' hs' => ?_)
    exact ⟨_, hs', rfl⟩⟩
  refine ⟨_, T₁, ⟨G.ok, B₃, G.D.turn T₁⟩, ⟨?_, S₁, by rw [T₁.size]; exact l.F.above⟩⟩
  (refine e34 (FG.ns) fun oL' es' ep' h1 h2 h3 h4 => ?_)
  rw [hLg] at h1; (replace h1 := Option.some.inj h1; subst h1)
  exact ⟨_, es', ep', hs, h2, h3, h4⟩

theorem def_raises {w : World} {lv n : Nat} {f : Addr} {qual name : Str} {params : Arguments} {body : List Stmt} {scope : Scope} {dV kV doc pm cdv ct oc : Value} {an od : Option Addr} {osl : Array (Option Value)} {xs : List V} {C : Addr} {ps : List Str}
    (hn1' : 1 ≤ n) (ho : (top0.heap_1 w.params).lookup f = some ⟨oc, od, .func (fnOf name qual params body scope dV kV doc pm an cdv ct), osl⟩) (hcd : codeIn (top0.heap_1 w.params) cdv qual = true)
    (hps : ps.length = xs.length) (hbind : ∀ (s : Shared) (vs : List Value), vs.length = ps.length → (top0.heap_1 w.params).In s.heap → BindsTo s (fnOf name qual params body scope dV kV doc pm an cdv ct) ⟨vs, []⟩ (ps.zip vs))
    (hnd : ps.Nodup) (hloc' : (ps.all fun x => decide (scope.names.lookup x = some NameKind.local)) = true)
    (hbody : ∀ (c : Amb), c.w = w → c.n = n → Room (c.at qual scope) lv → HOk H → Vs.lt H.length xs = true → TX (c.at qual scope) ⟨(c.at qual scope).env, []⟩ (ps.zip xs) H (execs body (c.at qual scope).env) C)
    (hco : scope.isCoroutine = false := by rfl) (hgen : scope.isGenerator = false := by rfl) (hk : scope.kind = .function := by rfl) (hcell : ∀ x ∈ scope.names, x.2 ≠ .cell := by decide) : MeetsX w (lv + 1) n (.ref f) xs H C := by
  intro c s m fz ys ρ os g vs Q E hw G htk R hcl l o hv k
  subst hw
  have hloc : ∀ x ∈ ps, scope.names.lookup x = some .local := fun x hx => of_decide_eq_true (List.all_eq_true.mp hloc' x hx)
  have XS : (top0.heap_1 c.w.params).In s.heap := G.X.keeps l.F.keep
  have hvl : vs.length = ps.length := by rw [hv.length, hps]
  have hn1 : ((ps.zip vs).map (·.1)) = ps := by rw [List.map_fst_zip]; lia
  refine wpAny_call ?_
  refine codeAny_call_def (fd := fnOf name qual params body scope dV kV doc pm an cdv ct) (body := body) (binds := ps.zip vs) (by show c.dp < recursionLimit; have := R.dp; lia) (XS _ _ ho) rfl (G.T.nolimit.keeps l.F.keep) (codeRec_of XS hcd) rfl (hbind s vs hvl XS) hcell
    (fun x hx => hloc _ (List.of_mem_zip hx).1) (fun h₁ hns hk₁ => ?_) hco hgen hk
  (refine e04 (groundX (R := fun _ _ => True) (A := c.A) (env := c.env) G.B l.F l.N rfl rfl G.ok.hk) fun FG BG st _ => ?_)
  generalize hg1 : hideAll s.heap ((ρ.zip os ++ ys ++ fz).map (·.1)) = g1 at FG BG st
  have hLg : ∃ oL es ep, g1.get? c.L = some oL ∧ oL.data = .dict es ep := by (refine e33 (FG.ns) fun oL es ep a b _ => ?_); exact ⟨oL, es, ep, a, b⟩
  let c' : Amb := { c.sub qual scope s.heap.objs.size f cdv with n := n }
  have l1 : Led s.heap.objs.size g1 h₁ (fun y => (ps.zip vs).reverse.lookup y) fz (ρ.zip os ++ ys) := by
    subst hg1
    refine ⟨⟨hns, fun b o e => hk₁ b o (of_hideAll _ e), Nat.le_of_eq (hideAll_size _ _)⟩, fun p hp => ⟨hk₁ _ _ (l.N p hp).1, Nat.ne_of_lt (Heap.lt_size (l.N p hp).1), hideAll_none _ (List.mem_map_of_mem hp)⟩, l.nd, l.ap⟩
  have D1 : KtsDicts c'.fs g1 := fun b hb => by
    (refine Or.elim (kts_memX (L := c.L) rfl hb) (fun o215_ => ?_) (fun hb => ?_); subst o215_)
    · exact hLg
    · (refine e32 (G.D b hb) fun o es' n' ho' hd' => ?_)
      exact ⟨o, es', n', st b o ho', hd'⟩
  have G1 : Gr c' g1 := ⟨⟨G.ok.XB, G.ok.TB, hk, hn1', Nat.le_add_left 1 c.dp, Nat.le_add_left 3 c.un⟩, BG, D1⟩
  have R1 : Rep c' ⟨c'.env, []⟩ (ps.zip xs) H fz ρ ys g1 h₁ (s.toks + (ps.zip vs).length) := by
    refine ⟨G1, Nat.le_trans htk (Nat.le_add_right _ _), ⟨hk, rfl, rfl⟩, _, os, [], l1, o, ⟨fun x v q => ?_, (fun x hx => absurd hx List.not_mem_nil), (fun x hx => absurd hx List.not_mem_nil), .inl rfl, fun m₀ q => nomatch q⟩⟩
    (refine e12 (lookup_zip hv q) fun v' a b => ?_)
    refine ⟨v', .inl ⟨?_, rfl, ?_⟩, b⟩
    · refine hloc x ?_
      have : ∃ p ∈ ps.zip xs, p.1 = x := by
        rw [List.lookup_eq_some_iff] at q
        (refine e22 q fun l1 l2 e _ => ?_; try clear q)
        exact ⟨(x, v), by rw [e]; simp, rfl⟩
      (refine e12 this fun p hp q6_ => ?_; try clear this; subst q6_)
      exact (List.of_mem_zip hp).1
    · show (ps.zip vs).reverse.lookup x = some v'
      rw [lookup_rev (by rw [hn1]; exact hnd)]; exact a
  have hvl2 : Vs.lt H.length xs = true := by rw [o.lenH]; exact hv.lt
  have hb := hbody c' rfl rfl ⟨by show c.dp + 1 + lv < _; have := R.dp; lia, by show c.un + 3 + 8 * lv + 64 < _; have := R.un; lia⟩ o.ok hvl2
  refine hb _ _ _ _ _ _ _ R1 fun h h' x ws tk' fz' ρ' g1' T X R2 hx => ?_
  obtain ⟨m2, os2, ls2, l2, o2, f2⟩ := R2.ex
  have hρ : ρ' = ρ := by
    have h1 : ρ'.length = ρ.length := by rw [← o2.lenH, ← o.lenH]
    refine List.ext_getElem h1 fun i a b => ?_
    have := X.pre i ρ[i] (by simp [b])
    simp [a] at this
    exact this
  subst hρ
  have l2' : Led s.heap.objs.size g1' h m2 fz' (ρ'.zip os2 ++ ys) := by
    refine ⟨l2.F, fun p hp => l2.N p ?_, ?_, fun p hp q => l2.ap p hp ?_⟩
    · (refine Or.elim (List.mem_append.mp hp) (fun q => ?_) (fun q => ?_))
      · exact List.mem_append_left _ (List.mem_append_right _ q)
      · exact List.mem_append_right _ q
    · have := l2.nd; rw [List.map_append] at this; exact (List.nodup_append.mp this).2.1
    · rw [List.map_append]; exact List.mem_append_right _ q
  (refine e13 (backG G l st FG hLg T) fun g₂ T₂ G₂ F₂ => ?_)
  refine leave_raiseS R2.gr.B hx l2'.F l2'.N (fun h'' t Rs _ hup => ?_) hk
  exact k x t ws h'' tk' g1' g₂ fz' os2 Rs F₂ hup T₂ G₂ X o2 l2'.nd l2'.ap
end Mine
end

section
open PySem PySem.W PyProof.Rows PySem.Calls PyProof.Rows.LCg
set_option Elab.async false
set_option linter.all false
set_option maxRecDepth 100000
set_option maxHeartbeats 1000000
namespace Mine
variable {c : Amb} {e : Sc} {vars vars' vars'' : Vars} {H H1 H2 H3 : List MO}

theorem TS1_try_ok {body : List Stmt} {h₀ : ExceptHandler} {hs : List ExceptHandler} {pos : Pos} {x : V} (h : TS c e vars H body (.ret x) vars' H1) : TS1 c e vars H (.Try body (h₀ :: hs) [] [] pos) (.ret x) vars' H1 := fun s fz ys ρ g Q E R k => by
  refine wpAny_Try_except (h _ _ _ _ _ _ _ R fun fl hh1 tk1 g1 fz1 ρ1 T1 X1 v1 R1 => ?_)
  cases v1
  rename_i v hv
  exact k _ hh1 tk1 g1 fz1 ρ1 T1 X1 (.ret hv) R1

noncomputable def CX (c : Amb) (e : Sc) (vars : Vars) (H : List MO) {α : Type} (t : Sem α) (C : Addr) : Prop :=
  ∀ (s : Shared) (fz ys : Lg) (ρ : List Addr) (g : Heap) (Q : α → Shared → Prop) (E : Value → Shared → Prop),
    Rep c e vars H fz ρ ys g s.heap s.toks →
    (∀ (x t : Addr) (ws : List Value) (h' : Heap) (tk' : Nat) (G g₂ : Heap) (m : Str → Option Value) (xs fz' : Lg) (os' : List Obj) (ρ' : List Addr), RaisedS c.base G (c.env :: c.outer) x (.ref C) t ws ((xs ++ (ρ'.zip os' ++ ys)) ++ fz') h' → Fr g₂ c.L G m → G.UpToSlots h' →
      KtsTurn c.fs g g₂ → Gr c g₂ → Ext fz fz' ρ ρ' → ObjsR c.w fz' ρ' os' H → ((xs ++ (ρ'.zip os' ++ ys)).map (·.1)).Nodup → (∀ p ∈ fz', p.1 ∉ (xs ++ (ρ'.zip os' ++ ys)).map (·.1)) → E (.ref x) { s with heap := h', toks := tk' }) →
    wpAny c.M c.A t Q E s
theorem CX_call {lv n : Nat} {x : Str} {np pos p1 : Pos} {a0 : Expr} {args : List Expr} {f : Value} {xs : List V} {C : Addr} (hm : MeetsX c.w lv n f xs H C) (hn : n ≤ c.n) (hr : Room c lv) (hcl : c.cl = [])
    (hf : TE c e vars H (eval (.Name x np) e.env) (.con f) H) (hk : Kept c f) (ha : TEs c e vars H (spliced (backTo pos (starEach (a0 :: args) e.env))) xs H)
    (he : starEach (a0 :: args) e.env = (false, eval a0 e.env) :: starEach args e.env) (hp : (backTo pos (starEach args e.env)).any (·.1) = false) :
    CX c e vars H (execs [.Return (some (.Call (.Name x np) (a0 :: args) [] pos)) p1] e.env) C := fun s fz ys ρ g Q E R k => by
  refine wpAny_execs_cons (wpAny_Return_some (wpAny_Call_Name_kw (hf _ _ _ _ _ _ _ R fun v hh1 tk1 g1 fz1 ρ1 T1 X1 v1 R1 => ?_)))
  cases v1
  show wpAny _ _ (callWith pos f [] (backTo pos (starEach (a0 :: args) e.env)) []) _ _ _
  rw [he] at ha ⊢
  refine callWith_of (P := fun h => (top0.heap_1 c.w.params).In h) (by show ((false || (backTo pos (starEach args e.env)).any (·.1)) || false) = false; rw [hp]; rfl) hk ?_
  refine evalArgs_plain ?_
  refine ha _ _ _ _ _ _ _ R1 fun b hh2 tk2 g2 fz2 ρ2 T2 X2 v2 R2 => ⟨R2.In, ?_⟩
  obtain ⟨m, os, ls, l, o, f⟩ := R2.ex
  have p : ∀ (A : Lg), (ls ++ (A ++ ys)).Perm (A ++ (ls ++ ys)) := fun A => by
    rw [← List.append_assoc, ← List.append_assoc]
    exact List.Perm.append_right ys List.perm_append_comm
  refine hm c _ m fz2 (ls ++ ys) ρ2 os g2 _ _ _ rfl R2.gr (Nat.le_trans hn R2.lo) hr hcl (l.perm (p _)) o v2 fun x t ws h' tk' G g₂ fz' os' Rs F₂ U T G₂ X o' nd ap => ?_
  have hp2 : (ρ2.zip os' ++ (ls ++ ys)).Perm (ls ++ (ρ2.zip os' ++ ys)) := (p _).symm
  refine k x t ws h' tk' G g₂ m ls fz' os' ρ2 ?_ F₂ U ((T1.trans T2).trans T) G₂ ((X1.trans X2).trans X) o' ((hp2.map _).nodup_iff.mp nd) fun q hq hm2 => ap q hq ((hp2.map _).symm.subset hm2)
  (refine e02 Rs fun q7_ b6 => ?_; try clear Rs; (refine e15 q7_ fun B b1 b2 b3 b4 b5 => ?_; try clear q7_))
  exact ⟨⟨B, b1, b2, fun q hq => b3 q (by
    (refine Or.elim (List.mem_append.mp hq) (fun z => ?_) (fun z => ?_))
    · exact List.mem_append_left _ (hp2.symm.subset z)
    · exact List.mem_append_right _ z), b4, b5⟩, b6⟩

noncomputable abbrev HTest (c : Amb) (cls : Value) (t : Expr) (b : Bool) : Prop := KtsTest PySem.Challenge.rw_kl0209_01.row.prog c.w (top0.heap_1 c.w.params) PP LL c.mg c.mb c.cn c.cs c.L c.a c.ccd cls t b

section
variable {s : Shared} {fz ys : Lg} {ρ : List Addr} {g : Heap} {Q : Flow → Shared → Prop} {E : Value → Shared → Prop}
theorem caught_text {C x t : Addr} {ws : List Value} {G g₂ : Heap} {m : Str → Option Value} {xs fz' : Lg} {os' : List Obj} {ρ' : List Addr} {tt : Expr} {msg : Str} {k1 : Nat} {p1 p2 p3 : Pos} {rest : List ExceptHandler}
    (hcl : c.cl = []) (hfm : c.fm = none) (hen : e.env = c.env) (hown : e.own = []) (hen2 : EnvOk e.env) (hlo : c.n ≤ s.toks)
    (Rs : RaisedS c.base G (c.env :: c.outer) x (.ref C) t ws ((xs ++ (ρ'.zip os' ++ ys)) ++ fz') s.heap) (F₂ : Fr g₂ c.L G m) (U : G.UpToSlots s.heap) (T : KtsTurn c.fs g g₂) (G₂ : Gr c g₂) (X : Ext fz fz' ρ ρ')
    (o' : ObjsR c.w fz' ρ' os' H) (nd : ((xs ++ (ρ'.zip os' ++ ys)).map (·.1)).Nodup) (ap : ∀ p ∈ fz', p.1 ∉ (xs ++ (ρ'.zip os' ++ ys)).map (·.1))
    (ht : HTest c (.ref C) tt true)
    (k : ∀ (v : Flow) (h' : Heap) (tk' : Nat) (g' : Heap) (fz' : Lg) (ρ' : List Addr), KtsTurn c.fs g g' → Ext fz fz' ρ ρ' → FlR fz' ρ' v (.ret (.str msg)) → Rep c e [] H fz' ρ' ys g' h' tk' → Q v { s with heap := h', toks := tk' }) :
    wpAny c.M c.A (handleBy (.ref x) e.env (.ExceptHandler (some tt) none [.Return (some (.Constant (.str msg) k1 p1)) p2] p3 :: rest)) Q E s := by
  have e1 : c.env = envOf c.cn c.cs c.L c.a c.ccd := by show envX _ _ _ _ _ _ = _; rw [hcl]; rfl
  have hk : c.cs.kind = .function := G₂.ok.hk
  let A₁ : Around := { c.A with depth := c.dp - 1, frames := some c.outer, units := c.un - 3 }
  have eA : c.A = A₁.deeper (envOf c.cn c.cs c.L c.a c.ccd) := by
    rw [← e1]
    show ({ handled := none, depth := c.dp, frames := some (c.env :: c.outer), guards := c.gd, units := c.un } : Around) = { handled := none, depth := c.dp - 1 + 1, frames := some (c.env :: c.outer), guards := c.gd, units := c.un - 3 + 3 }
    have h1 := G₂.ok.d1
    have h2 := G₂.ok.d3
    rw [Nat.sub_add_cancel h1, Nat.sub_add_cancel h2]
  have B2 : Below A₁ c.base c.outer g₂ := ⟨rfl, G₂.B.stays, G₂.B.frames⟩
  rw [e1] at Rs
  refine wpAny_mono (Q := Q) (E := fun _ _ => False) ?_ (fun _ _ x => x) fun _ _ x => x.elim
  rw [hen, e1, eA]
  refine hit_S0 Rs F₂ B2 U G₂.ok.XB G₂.ok.TB G₂.D T ht (fun h' g' news₂ T' F' N₂ got Nn B' X' P' D' => ?_) PassesOwnAt.never
  refine wpAny_execs_cons (wpAny_Return_some (wpAny_Constant_str ?_))
  have G' : Gr c g' := ⟨G₂.ok, ⟨G₂.B.stack, B'.stays, B'.frames⟩, D'⟩
  refine k _ h' (s.toks + 1) g' fz' ρ' T' X (.ret (.str _ _ trivial)) ⟨G', Nat.le_trans hlo (Nat.le_succ _), hen2, m, os', xs, ⟨F', Nn, nd, ap⟩, o', ⟨fun x v q => by simp at q, fun x hx => by rw [hown] at hx; exact absurd hx List.not_mem_nil, fun x hx => by rw [hown] at hx; exact absurd hx List.not_mem_nil, .inl (by rw [hen]), fun m₀ q => by rw [hfm] at q; exact ns q⟩⟩
theorem looked {C x t : Addr} {ws : List Value} {G g₂ : Heap} {m : Str → Option Value} {news : Lg} {hs : List ExceptHandler} (hcl : c.cl = []) (hen : e.env = c.env)
    (Rs : RaisedS c.base G (c.env :: c.outer) x (.ref C) t ws news s.heap) (F₂ : Fr g₂ c.L G m) (U : G.UpToSlots s.heap) (G₂ : Gr c g₂)
    (k : ∀ h', RaisedS c.base G (c.env :: c.outer) x (.ref C) t ws news h' → G.UpToSlots h' → wpAny c.M c.A (handleBy (.ref x) e.env hs) Q E { s with heap := h' }) :
    wpAny c.M c.A (noteFrame (.ref x) e.env) (fun _ s₂ => wpAny c.M c.A (setFlight (.ref x) none) (fun _ s₃ => wpAny c.M c.A (handleBy (.ref x) e.env hs) Q E s₃) E s₂) E s := by
  have e1 : c.env = envOf c.cn c.cs c.L c.a c.ccd := by show envX _ _ _ _ _ _ = _; rw [hcl]; rfl
  let A₁ : Around := { c.A with depth := c.dp - 1, frames := some c.outer, units := c.un - 3 }
  have eA : c.A = A₁.deeper (envOf c.cn c.cs c.L c.a c.ccd) := by
    rw [← e1]
    show ({ handled := none, depth := c.dp, frames := some (c.env :: c.outer), guards := c.gd, units := c.un } : Around) = { handled := none, depth := c.dp - 1 + 1, frames := some (c.env :: c.outer), guards := c.gd, units := c.un - 3 + 3 }
    have h1 := G₂.ok.d1
    have h2 := G₂.ok.d3
    rw [Nat.sub_add_cancel h1, Nat.sub_add_cancel h2]
  have B2 : Below A₁ c.base c.outer g₂ := ⟨rfl, G₂.B.stays, G₂.B.frames⟩
  rw [e1] at Rs k
  rw [hen, e1, eA] at k ⊢
  exact kts_lookS Rs F₂ B2 U G₂.D k
theorem passed {C x t : Addr} {ws : List Value} {G g₂ : Heap} {m : Str → Option Value} {news : Lg} {rest : List ExceptHandler} {tt : Expr} {body : List Stmt} {nm : Option Str} {pos : Pos} (hcl : c.cl = []) (hen : e.env = c.env)
    (Rs : RaisedS c.base G (c.env :: c.outer) x (.ref C) t ws news s.heap) (F₂ : Fr g₂ c.L G m) (U : G.UpToSlots s.heap) (G₂ : Gr c g₂) (ht : HTest c (.ref C) tt false)
    (k : ∀ h', RaisedS c.base G (c.env :: c.outer) x (.ref C) t ws news h' → G.UpToSlots h' → wpAny c.M c.A (handleBy (.ref x) e.env rest) Q E { s with heap := h' }) :
    wpAny c.M c.A (handleBy (.ref x) e.env (.ExceptHandler (some tt) nm body pos :: rest)) Q E s := by
  have e1 : c.env = envOf c.cn c.cs c.L c.a c.ccd := by show envX _ _ _ _ _ _ = _; rw [hcl]; rfl
  let A₁ : Around := { c.A with depth := c.dp - 1, frames := some c.outer, units := c.un - 3 }
  have eA : c.A = A₁.deeper (envOf c.cn c.cs c.L c.a c.ccd) := by
    rw [← e1]
    show ({ handled := none, depth := c.dp, frames := some (c.env :: c.outer), guards := c.gd, units := c.un } : Around) = { handled := none, depth := c.dp - 1 + 1, frames := some (c.env :: c.outer), guards := c.gd, units := c.un - 3 + 3 }
    have h1 := G₂.ok.d1
    have h2 := G₂.ok.d3
    rw [Nat.sub_add_cancel h1, Nat.sub_add_cancel h2]
  have B2 : Below A₁ c.base c.outer g₂ := ⟨rfl, G₂.B.stays, G₂.B.frames⟩
  rw [e1] at Rs k
  rw [hen, e1, eA] at k ⊢
  exact pass_S Rs F₂ B2 U G₂.ok.XB G₂.ok.TB G₂.D ht k
end
theorem TS1_try_X1 {t : List Stmt} {C : Addr} {tt : Expr} {msg : Str} {k1 : Nat} {p1 p2 p3 pos : Pos} {rest : List ExceptHandler} (h : CX c e vars H (execs t e.env) C) (hcl : c.cl = []) (hfm : c.fm = none) (hen : e.env = c.env) (hown : e.own = []) (ht : HTest c (.ref C) tt true) :
    TS1 c e vars H (.Try t (.ExceptHandler (some tt) none [.Return (some (.Constant (.str msg) k1 p1)) p2] p3 :: rest) [] [] pos) (.ret (.str msg)) [] H := fun s fz ys ρ g Q E R k => by
  refine wpAny_Try_except (wpAny_with_toks (Nat.le_refl s.toks) (h _ _ _ _ _ _ _ R fun x t ws h' tk' G g₂ m xs fz' os' ρ' Rs F₂ U T G₂ X o' nd ap => ?_))
  intro hle
  refine looked hcl hen Rs F₂ U G₂ fun h2 Rs U => ?_
  exact caught_text hcl hfm hen hown R.env (Nat.le_trans R.lo hle) Rs F₂ U T G₂ X o' nd ap ht k
theorem TS1_try_X2 {t : List Stmt} {C : Addr} {tt t0 : Expr} {nm : Option Str} {b0 : List Stmt} {p0 : Pos} {msg : Str} {k1 : Nat} {p1 p2 p3 pos : Pos} {rest : List ExceptHandler} (h : CX c e vars H (execs t e.env) C) (hcl : c.cl = []) (hfm : c.fm = none) (hen : e.env = c.env) (hown : e.own = []) (h0 : HTest c (.ref C) t0 false) (ht : HTest c (.ref C) tt true) :
    TS1 c e vars H (.Try t (.ExceptHandler (some t0) nm b0 p0 :: .ExceptHandler (some tt) none [.Return (some (.Constant (.str msg) k1 p1)) p2] p3 :: rest) [] [] pos) (.ret (.str msg)) [] H := fun s fz ys ρ g Q E R k => by
  refine wpAny_Try_except (wpAny_with_toks (Nat.le_refl s.toks) (h _ _ _ _ _ _ _ R fun x t ws h' tk' G g₂ m xs fz' os' ρ' Rs F₂ U T G₂ X o' nd ap => ?_))
  intro hle
  refine looked hcl hen Rs F₂ U G₂ fun h2 Rs U => ?_
  refine passed hcl hen Rs F₂ U G₂ h0 fun h2 Rs U => ?_
  exact caught_text hcl hfm hen hown R.env (Nat.le_trans R.lo hle) Rs F₂ U T G₂ X o' nd ap ht k
end Mine
end

section
open PySem PySem.W PyProof.Rows PySem.Calls PyProof.Rows.LCg
set_option Elab.async false
set_option linter.all false
set_option maxRecDepth 100000
set_option maxHeartbeats 1000000
namespace Mine
variable {c : Amb} {e : Sc} {vars vars' vars'' : Vars} {H H1 H2 H3 : List MO}

section
variable {prog : Program} {w : World} {A : Around} {R : Result → Shared → Prop} {env : Env}
theorem codeAny_while1 {test : Expr} {body orelse : List Stmt} {s : Shared}
    (h : wpAny (model prog w) A (isTrue test env (eval test env)) (fun b s₂ =>
        if b then wpAny (model prog w) A (execs body env) (fun f s₃ => match f with
            | .next | .cont => codeAny (model prog w) A (.whileLoop test body orelse env) R s₃
            | .brk => R (.ok .next) s₃
            | .ret v => R (.ok (.ret v)) s₃) (notedBy (model prog w) A env fun e s' => R (.error e) s') s₂
        else wpAny (model prog w) A (execs orelse env) (fun f s₃ => R (.ok f) s₃) (notedBy (model prog w) A env fun e s' => R (.error e) s') s₂)
        (notedBy (model prog w) A env fun e s' => R (.error e) s') s) : codeAny (model prog w) A (.whileLoop test body orelse env) R s := by
  refine codeAny_of_tree ?_
  show wpAny _ A ((whileTurn test body orelse env).onRaise (fun x => do noteFrame x env; theTreesLotGoes x)) _ _ s
  refine wpAny_noted ?_
  simp only [whileTurn]
  refine wpAny_bind (wpAny_mono h (fun b s₂ h₂ => ?_) fun _ _ h' => h')
  cases b with
  | false =>
    simp only [Bool.false_eq_true, if_false] at h₂ ⊢
    exact wpAny_bind (wpAny_mono h₂ (fun f s₃ h₃ => wpAny_pure h₃) fun _ _ h' => h')
  | true =>
    simp only [if_true] at h₂ ⊢
    refine wpAny_bind (wpAny_mono h₂ (fun f s₃ h₃ => ?_) fun _ _ h' => h')
    cases f with
    | next => exact wpAny_pure ⟨rfl, h₃⟩
    | cont => exact wpAny_pure ⟨rfl, h₃⟩
    | brk => exact wpAny_pure h₃
    | ret v => exact wpAny_pure h₃
theorem codeAny_for1 {target : Expr} {it : Value} {body orelse : List Stmt} {s : Shared}
    (h : wpAny (model prog w) A (pyNext it) (fun r s₁ => match r with
      | none => wpAny (model prog w) A (execs orelse env) (fun f s₃ => R (.ok f) s₃) (notedBy (model prog w) A env fun e s' => R (.error e) s') s₁
      | some v => wpAny (model prog w) A (letOwnedTupleGo target it v) (fun _ s₁' =>
          wpAny (model prog w) A (assign target env v) (fun _ s₂ => wpAny (model prog w) A (execs body env) (fun f s₃ => match f with
            | .next | .cont => codeAny (model prog w) A (.forLoop target it body orelse env) R s₃
            | .brk => R (.ok .next) s₃
            | .ret v => R (.ok (.ret v)) s₃) (notedBy (model prog w) A env fun e s' => R (.error e) s') s₂) (notedBy (model prog w) A env fun e s' => R (.error e) s') s₁') (notedBy (model prog w) A env fun e s' => R (.error e) s') s₁) (notedBy (model prog w) A env fun e s' => R (.error e) s') s)
    : codeAny (model prog w) A (.forLoop target it body orelse env) R s := by
  refine codeAny_of_tree ?_
  show wpAny _ A ((forTurn target it body orelse env).onRaise (fun x => do noteFrame x env; theTreesLotGoes x)) _ _ s
  refine wpAny_noted ?_
  simp only [forTurn]
  refine wpAny_bind (wpAny_standAt (wpAny_bind (wpAny_onRaise (wpAny_mono h (fun r s₁ h₁ => ?_) fun _ _ h' => wpAny_standAt h'))))
  cases r with
  | none => exact wpAny_pure ⟨rfl, codeAny_block h₁⟩
  | some v =>
    refine wpAny_bind (wpAny_mono h₁ (fun _ s₁' h₁' => ?_) fun _ _ h' => h')
    refine wpAny_bind (wpAny_mono h₁' (fun _ s₂ h₂ => wpAny_bind (wpAny_mono h₂ (fun f s₃ h₃ => ?_) fun _ _ h' => h')) fun _ _ h' => h')
    cases f with
    | next => exact wpAny_pure ⟨rfl, h₃⟩
    | cont => exact wpAny_pure ⟨rfl, h₃⟩
    | brk => exact wpAny_pure h₃
    | ret v => exact wpAny_pure h₃
end

noncomputable def Fl.goes : Fl → Bool
  | .next | .cont => true
  | _ => false
inductive WhR (c : Amb) (e : Sc) (test : Expr) (body : List Stmt) : Vars → List MO → Fl → Vars → List MO → Prop
  | done {vars : Vars} {H H1 : List MO} : TB c e vars H (isTrue test e.env (eval test e.env)) false H1 → WhR c e test body vars H .next vars H1
  | go {vars vars1 vars' : Vars} {H H1 H2 H' : List MO} {fl f : Fl} : TB c e vars H (isTrue test e.env (eval test e.env)) true H1 → TS c e vars H1 body fl vars1 H2 → fl.goes = true → WhR c e test body vars1 H2 f vars' H' → WhR c e test body vars H f vars' H'
  | brk {vars vars1 : Vars} {H H1 H2 : List MO} : TB c e vars H (isTrue test e.env (eval test e.env)) true H1 → TS c e vars H1 body .brk vars1 H2 → WhR c e test body vars H .next vars1 H2
  | ret {vars : Vars} {H H1 H2 : List MO} {x : V} : TB c e vars H (isTrue test e.env (eval test e.env)) true H1 → TS c e vars H1 body (.ret x) [] H2 → WhR c e test body vars H (.ret x) [] H2
noncomputable def TC (c : Amb) (e : Sc) (vars : Vars) (H : List MO) (cd : Code) (f : Fl) (vars' : Vars) (H' : List MO) : Prop :=
  ∀ (s : Shared) (fz ys : Lg) (ρ : List Addr) (g : Heap) (R : Result → Shared → Prop),
    Rep c e vars H fz ρ ys g s.heap s.toks →
    (∀ (v : Flow) (h' : Heap) (tk' : Nat) (g' : Heap) (fz' : Lg) (ρ' : List Addr), KtsTurn c.fs g g' → Ext fz fz' ρ ρ' → FlR fz' ρ' v f → Rep c e vars' H' fz' ρ' ys g' h' tk' → R (.ok v) { s with heap := h', toks := tk' }) →
    codeAny c.M c.A cd R s
theorem WhR.tc {test : Expr} {body : List Stmt} {f : Fl} {H' : List MO} (h : WhR c e test body vars H f vars' H') : TC c e vars H (.whileLoop test body [] e.env) f vars' H' := by
  induction h with
  | done h1 =>
    intro s fz ys ρ g R Rp k
    refine codeAny_while1 (h1 _ _ _ _ _ _ _ Rp fun v hh1 tk1 g1 fz1 ρ1 T1 X1 v1 R1 => ?_)
    subst v1
    simp only [Bool.false_eq_true, if_false]
    exact wpAny_execs_nil (k .next hh1 tk1 g1 fz1 ρ1 T1 X1 .next R1)
  | go h1 h2 h3 _ ih =>
    intro s fz ys ρ g R Rp k
    refine codeAny_while1 (h1 _ _ _ _ _ _ _ Rp fun v hh1 tk1 g1 fz1 ρ1 T1 X1 v1 R1 => ?_)
    subst v1
    simp only [if_true]
    refine h2 _ _ _ _ _ _ _ R1 fun v hh2 tk2 g2 fz2 ρ2 T2 X2 v2 R2 => ?_
    cases v2 with
    | next => exact ih _ _ _ _ _ _ R2 fun v h' tk' g' fz' ρ' T X p R' => k v h' tk' g' fz' ρ' ((T1.trans T2).trans T) ((X1.trans X2).trans X) p R'
    | cont => exact ih _ _ _ _ _ _ R2 fun v h' tk' g' fz' ρ' T X p R' => k v h' tk' g' fz' ρ' ((T1.trans T2).trans T) ((X1.trans X2).trans X) p R'
    | brk => exact ft h3
    | ret _ => exact ft h3
  | brk h1 h2 =>
    intro s fz ys ρ g R Rp k
    refine codeAny_while1 (h1 _ _ _ _ _ _ _ Rp fun v hh1 tk1 g1 fz1 ρ1 T1 X1 v1 R1 => ?_)
    subst v1
    simp only [if_true]
    refine h2 _ _ _ _ _ _ _ R1 fun v hh2 tk2 g2 fz2 ρ2 T2 X2 v2 R2 => ?_
    cases v2
    exact k _ _ _ _ _ _ (T1.trans T2) (X1.trans X2) .next R2
  | ret h1 h2 =>
    intro s fz ys ρ g R Rp k
    refine codeAny_while1 (h1 _ _ _ _ _ _ _ Rp fun v hh1 tk1 g1 fz1 ρ1 T1 X1 v1 R1 => ?_)
    subst v1
    simp only [if_true]
    refine h2 _ _ _ _ _ _ _ R1 fun v hh2 tk2 g2 fz2 ρ2 T2 X2 v2 R2 => ?_
    cases v2 with
    | ret hv => exact k _ _ _ _ _ _ (T1.trans T2) (X1.trans X2) (.ret hv) R2
theorem TS1_while {test : Expr} {body : List Stmt} {pos : Pos} {f : Fl} {H' : List MO} (h : WhR c e test body vars H f vars' H') : TS1 c e vars H (.While test body [] pos) f vars' H' := fun s fz ys ρ g Q E R k =>
  wpAny_While (h.tc _ _ _ _ _ _ R k)

noncomputable def Plain (o : Obj) : Prop := (∀ mm, ¬ NsObj o mm) ∧ ∀ v, o.data ≠ .cell v
theorem Plain.fields {o : Obj} {vs : Array Value} (h : o.data = .fields vs) : Plain o := ⟨(fun mm q => by (refine e22 q fun es ep d _ => ?_; try clear q); rw [h] at d; cases d), (fun v q => by rw [h] at q; cases q)⟩
namespace Rep
variable {fz ys : Lg} {ρ : List Addr} {g h h' : Heap} {tk : Nat} {a : Addr} {o o' : Obj}
theorem permY (l : Led L g h m fz (xs ++ (zs ++ ((a, o) :: ys)))) : Led L g h m fz ((a, o) :: (xs ++ (zs ++ ys))) := l.perm (by
  rw [← List.append_assoc, ← List.append_assoc]; exact List.perm_middle)
theorem permY' (l : Led L g h m fz ((a, o) :: (xs ++ (zs ++ ys)))) : Led L g h m fz (xs ++ (zs ++ ((a, o) :: ys))) := l.perm (by
  rw [← List.append_assoc, ← List.append_assoc]; exact List.perm_middle.symm)
theorem allocY (R : Rep c e vars H fz ρ ys g h tk) (o : Obj) (hf : o.isFreed = false := by rfl) : Rep c e vars H fz ρ ((h.objs.size, o) :: ys) g (h.push o) tk := by
  obtain ⟨m, os, xs, l, q, f⟩ := R.ex
  refine ⟨R.gr, R.lo, R.env, m, os, xs, permY' (l.allocM o hf), q, ⟨fun x v hx => ?_, f.cells, f.inj, f.loc, f.fr⟩⟩
  (refine e12 (f.vars x v hx) fun v' a b => ?_)
  exact ⟨v', a.sub fun p hp => by
    (refine Or.elim (List.mem_append.mp hp) (fun z => ?_) (fun z => ?_))
    · exact List.mem_append_left _ z
    · exact List.mem_append_right _ (.tail _ z), b⟩
theorem varY (f : Fm c e m xs ((a, o) :: ys) fz ρ vars) (ho : Plain o) : Fm c e m xs ys fz ρ vars := ⟨fun x v hx => by
  (refine e12 (f.vars x v hx) fun v' h1 b => ?_)
  have key : ∀ p ∈ xs ++ ((a, o) :: ys), p.2 ≠ o → p ∈ xs ++ ys := fun p hp hn => by
    (refine Or.elim (List.mem_append.mp hp) (fun z => ?_) (fun z => ?_))
    · exact List.mem_append_left _ z
    · (refine Or.elim (List.mem_cons.mp z) (fun o216_ => ?_) (fun z => ?_); subst o216_)
      · exact absurd rfl hn
      · exact List.mem_append_right _ z
  refine ⟨v', ?_, b⟩
  (refine Or.elim h1 (fun h1 => ?_) (fun o217_ => ?_); rotate_left 1; try clear h1; (refine Or.elim o217_ (fun o62_ => ?_) (fun o63_ => ?_); rotate_left 1; try clear o217_; (refine e02 o63_ fun a1 q17_ => ?_; try clear o63_; obtain ⟨ca, oo, a2, a3, a4⟩ := q17_); rotate_right 1; try clear o217_; (refine e02 o62_ fun a1 q18_ => ?_; try clear o62_; obtain ⟨oo, mm, a2, a3, a4⟩ := q18_)); rotate_right 1)
  · exact .inl h1
  · exact .inr (.inl ⟨a1, oo, mm, key _ a2 (fun q => ho.1 mm (by rw [← (q : oo = o)]; exact a3)), a3, a4⟩)
  · exact .inr (.inr ⟨a1, ca, oo, a2, key _ a3 (fun q => ho.2 _ (by rw [← (q : oo = o)]; exact a4)), a4⟩), f.cells, f.inj, f.loc, f.fr⟩
theorem addY (f : Fm c e m xs ys fz ρ vars) : Fm c e m xs ((a, o) :: ys) fz ρ vars := ⟨fun x v hx => by
  (refine e12 (f.vars x v hx) fun v' a b => ?_)
  exact ⟨v', a.sub fun p hp => by
    (refine Or.elim (List.mem_append.mp hp) (fun z => ?_) (fun z => ?_))
    · exact List.mem_append_left _ z
    · exact List.mem_append_right _ (.tail _ z), b⟩, f.cells, f.inj, f.loc, f.fr⟩
theorem put_head {zs : Lg} (nd : (((a, o) :: zs).map (·.1)).Nodup) : put a o' ((a, o) :: zs) = (a, o') :: zs := by
  have h1 : a ∉ zs.map (·.1) := (List.nodup_cons.mp nd).1
  have := put_none (o := o') h1
  unfold put at this ⊢
  rw [List.map_cons, this]; simp
theorem updY (R : Rep c e vars H fz ρ ((a, o) :: ys) g h tk) (hs : Heap.SameBut a h h') (ho : h'.get? a = some o') (hp : Plain o) : Rep c e vars H fz ρ ((a, o') :: ys) g h' tk := by
  obtain ⟨m, os, xs, l, q, f⟩ := R.ex
  have l1 := permY l
  have l2 := l1.upd (.head _) hs ho
  rw [put_head l1.nd] at l2
  exact ⟨R.gr, R.lo, R.env, m, os, xs, permY' l2, q, addY (varY f hp)⟩
theorem getY (R : Rep c e vars H fz ρ ((a, o) :: ys) g h tk) : h.get? a = some o := by
  obtain ⟨m, os, xs, l, q, f⟩ := R.ex
  exact (permY l).getM (.head _)
theorem endY (R : Rep c e vars H fz ρ ((a, o) :: ys) g h tk) (hs : Heap.ExtBut a h h') (hp : Plain o) : Rep c e vars H fz ρ ys g h' tk := by
  obtain ⟨m, os, xs, l, q, f⟩ := R.ex
  have l1 := permY l
  have za := l1.N _ (List.mem_append_left _ (.head _))
  have hne : ∀ {p : Addr × Obj}, p ∈ (xs ++ (ρ.zip os ++ ys)) ++ fz → p.1 ≠ a := fun {p} hm q => by
    (refine Or.elim (List.mem_append.mp hm) (fun z => ?_) (fun z => ?_))
    · exact (List.nodup_cons.mp l1.nd).1 (List.mem_map.mpr ⟨p, z, q⟩)
    · exact l1.ap p z (List.mem_map.mpr ⟨_, .head _, q.symm⟩)
  refine ⟨R.gr, R.lo, R.env, m, os, xs, ⟨⟨?_, fun b oo q => hs b oo (fun z => by rw [z, za.2.2] at q; exact ns q) (l1.F.keep b oo q), l1.F.above⟩, fun p hp => ⟨hs _ _ (hne hp) (l1.N p ?_).1, (l1.N p ?_).2⟩, (List.nodup_cons.mp l1.nd).2, fun p hp hm => l1.ap p hp (.tail _ hm)⟩, q, varY f hp⟩
  · (refine e34 (l1.F.ns) fun oL es ep h1 h2 h3 h4 => ?_)
    exact ⟨oL, es, ep, hs _ _ (fun z => za.2.1 z.symm) h1, h2, h3, h4⟩
  all_goals
    (refine Or.elim (List.mem_append.mp hp) (fun z => ?_) (fun z => ?_))
    · exact List.mem_append_left _ (.tail _ z)
    · exact List.mem_append_right _ z
end Rep
end Mine
end

section
open PySem PySem.W PyProof.Rows PySem.Calls PyProof.Rows.LCg
set_option Elab.async false
set_option linter.all false
set_option maxRecDepth 100000
set_option maxHeartbeats 1000000
namespace Mine
variable {c : Amb} {e : Sc} {vars vars' vars'' : Vars} {H H1 H2 H3 : List MO}

theorem Rep.updE {fz ys : Lg} {ρ : List Addr} {g h h' : Heap} {tk : Nat} {a : Addr} {o o' : Obj} (R : Rep c e vars H fz ρ ((a, o) :: ys) g h tk) (hs : Heap.ExtBut a h h') (ho : h'.get? a = some o') (hp : Plain o) : Rep c e vars H fz ρ ((a, o') :: ys) g h' tk := by
  obtain ⟨m, os, xs, l, q, f⟩ := R.ex
  have l1 := permY l
  have za := l1.N _ (List.mem_append_left _ (.head _))
  have hne : ∀ {p : Addr × Obj}, p ∈ (xs ++ (ρ.zip os ++ ys)) ++ fz → p.1 ≠ a := fun {p} hm q => by
    (refine Or.elim (List.mem_append.mp hm) (fun z => ?_) (fun z => ?_))
    · exact (List.nodup_cons.mp l1.nd).1 (List.mem_map.mpr ⟨p, z, q⟩)
    · exact l1.ap p z (List.mem_map.mpr ⟨_, .head _, q.symm⟩)
  have l2 : Led c.L g h' m fz ((a, o') :: (xs ++ (ρ.zip os ++ ys))) := by
    refine ⟨⟨?_, fun b oo q => hs b oo (fun z => by rw [z, za.2.2] at q; exact ns q) (l1.F.keep b oo q), l1.F.above⟩, fun p hp => ?_, l1.nd, fun p hp hm => l1.ap p hp hm⟩
    · (refine e34 (l1.F.ns) fun oL es ep h1 h2 h3 h4 => ?_)
      exact ⟨oL, es, ep, hs _ _ (fun z => za.2.1 z.symm) h1, h2, h3, h4⟩
    · (refine Or.elim (List.mem_append.mp hp) (fun z => ?_) (fun z => ?_))
      · (refine Or.elim (List.mem_cons.mp z) (fun o218_ => ?_) (fun z => ?_); subst o218_)
        · exact ⟨ho, za.2⟩
        · have := l1.N p (List.mem_append_left _ (.tail _ z))
          exact ⟨hs _ _ (hne (List.mem_append_left _ z)) this.1, this.2⟩
      · have := l1.N p (List.mem_append_right _ z)
        exact ⟨hs _ _ (hne (List.mem_append_right _ z)) this.1, this.2⟩
  exact ⟨R.gr, R.lo, R.env, m, os, xs, permY' l2, q, addY (varY f hp)⟩


theorem Rep.permYs {fz ys ys' : Lg} {ρ : List Addr} {g h : Heap} {tk : Nat} (p : ys.Perm ys') (R : Rep c e vars H fz ρ ys g h tk) : Rep c e vars H fz ρ ys' g h tk := by
  obtain ⟨m, os, xs, l, q, f⟩ := R.ex
  refine ⟨R.gr, R.lo, R.env, m, os, xs, l.perm ((p.append_left _).append_left _), q, ⟨fun x v hx => ?_, f.cells, f.inj, f.loc, f.fr⟩⟩
  (refine e12 (f.vars x v hx) fun v' a b => ?_)
  exact ⟨v', a.sub fun z hz => (p.append_left xs).subset hz, b⟩
theorem Rep.dropY {ys : Lg} : ∀ {objs fz : Lg} {ρ : List Addr} {g h : Heap} {tk : Nat}, (∀ p ∈ objs, Plain p.2) → Rep c e vars H fz ρ (objs ++ ys) g h tk → Rep c e vars H fz ρ ys g h tk
  | [], _, _, _, _, _, _, R => R
  | (a, o) :: r, _, _, _, _, _, hp, R => Rep.dropY (fun p hm => hp p (.tail _ hm)) (Rep.endY R (fun _ _ _ q => q) (hp (a, o) (.head _)))

structure Walking (c : Amb) (tgt : Expr) (fz₀ : Lg) (ρ₀ : List Addr) (xs : List V) (KH : List MO → Prop) (St : Nat → Addr → Lg → Prop) : Prop where
  item : ∀ (i : Nat) (x : V), xs[i]? = some x → ∀ (e : Sc) (vars : Vars) (H : List MO) (I : Addr) (objs fz : Lg) (ρ : List Addr) (s : Shared) (ys : Lg) (g : Heap) (Q : Value → Shared → Prop) (E : Value → Shared → Prop), KH H → Ext fz₀ fz ρ₀ ρ → St i I objs →
    Rep c e vars H fz ρ (objs ++ ys) g s.heap s.toks → (∀ v h' tk' fz' objs', Ext fz fz' ρ ρ → VR fz' ρ v x → St (i + 1) I objs' → Rep c e vars H fz' ρ (objs' ++ ys) g h' tk' → Q v { s with heap := h', toks := tk' }) →
    wpAny c.M c.A (pyNext (.ref I)) (fun r s₁ => ∃ v, r = some v ∧ wpAny c.M c.A (letOwnedTupleGo tgt (.ref I) v) (fun _ s₂ => Q v s₂) E s₁) E s
  over : ∀ (i : Nat), xs[i]? = none → ∀ (e : Sc) (vars : Vars) (H : List MO) (I : Addr) (objs fz : Lg) (ρ : List Addr) (s : Shared) (ys : Lg) (g : Heap) (Q : Option Value → Shared → Prop) (E : Value → Shared → Prop), KH H → Ext fz₀ fz ρ₀ ρ → St i I objs →
    Rep c e vars H fz ρ (objs ++ ys) g s.heap s.toks → (∀ h', Rep c e vars H fz ρ ys g h' s.toks → Q none { s with heap := h' }) → wpAny c.M c.A (pyNext (.ref I)) Q E s
  stop : ∀ (i : Nat) (I : Addr) (objs : Lg), St i I objs → ∀ p ∈ objs, Plain p.2
  self : ∀ (i : Nat) (e : Sc) (vars : Vars) (H : List MO) (I : Addr) (objs fz : Lg) (ρ : List Addr) (s : Shared) (ys : Lg) (g : Heap) (Q : Value → Shared → Prop) (E : Value → Shared → Prop), St i I objs →
    Rep c e vars H fz ρ (objs ++ ys) g s.heap s.toks → Q (.ref I) s → wpAny c.M c.A (pyIter (.ref I)) Q E s
noncomputable def ItR (c : Amb) (e : Sc) (vars : Vars) (H : List MO) (iter tgt : Expr) (xs : List V) (KH : List MO → Prop) (H1 : List MO) : Prop :=
  ∀ (s : Shared) (fz ys : Lg) (ρ : List Addr) (g : Heap) (Q : Value → Shared → Prop) (E : Value → Shared → Prop), Rep c e vars H fz ρ ys g s.heap s.toks →
    (∀ fz' ρ' g' St I objs h' tk', KtsTurn c.fs g g' → Ext fz fz' ρ ρ' → (∀ fm, Walking { c with fm := fm } tgt fz' ρ' xs KH St) → St 0 I objs → Rep c e vars H1 fz' ρ' (objs ++ ys) g' h' tk' → Q (.ref I) { s with heap := h', toks := tk' }) →
    wpAny c.M c.A (eval iter e.env) (fun v s₁ => wpAny c.M c.A (pyIter v) Q E s₁) E s
structure WalkOn (c : Amb) (tgt : Expr) (src : Value) (fz₀ : Lg) (ρ₀ : List Addr) (xs : List V) (KH : List MO → Prop) (St : Nat → Addr → Lg → Prop) : Prop where
  walk : ∀ fm, Walking { c with fm := fm } tgt fz₀ ρ₀ xs KH St
  start : ∀ (e : Sc) (vars : Vars) (H : List MO) (s : Shared) (ys : Lg) (g : Heap) (Q : Value → Shared → Prop) (E : Value → Shared → Prop), KH H → Rep c e vars H fz₀ ρ₀ ys g s.heap s.toks →
    (∀ I objs h' tk', St 0 I objs → Rep c e vars H fz₀ ρ₀ (objs ++ ys) g h' tk' → Q (.ref I) { s with heap := h', toks := tk' }) → wpAny c.M c.A (pyIter src) Q E s
noncomputable def Walk (c : Amb) (tgt : Expr) (x : V) (xs : List V) (KH : List MO → Prop) : Prop := ∀ (v : Value) (fz : Lg) (ρ : List Addr), VR fz ρ v x → ∃ St, WalkOn c tgt v fz ρ xs KH St
theorem ItR_of {iter tgt : Expr} {x : V} {xs : List V} {KH : List MO → Prop} (h1 : TE c e vars H (eval iter e.env) x H1) (hw : Walk c tgt x xs KH) (hK : KH H1) : ItR c e vars H iter tgt xs KH H1 := fun s fz ys ρ g Q E R k => by
  refine h1 _ _ _ _ _ _ _ R fun v hh1 tk1 g1 fz1 ρ1 T1 X1 v1 R1 => ?_
  (refine Exists.elim (hw v fz1 ρ1 v1) fun St W => ?_)
  exact W.start e vars _ _ ys g1 _ _ hK R1 fun I objs h' tk' hst R2 => k fz1 ρ1 g1 St I objs h' tk' T1 X1 W.walk hst R2

theorem letgo_other {M : Model} {A : Around} {tgt : Expr} {I : Addr} {o : Obj} {n : String} {vs : Array Value} {v : Value} {s : Shared} {Q : Unit → Shared → Prop} {E : Value → Shared → Prop} (ho : s.heap.get? I = some o) (hc : o.cls = .type n) (hd : o.data = .fields vs)
    (hn : (["enumerate", "zip", "dict_itemiterator", "dict_reverseitemiterator", "odict_iterator", "itertools.zip_longest", "itertools.pairwise"].contains n) = false) (hq : Q () s) : wpAny M A (letOwnedTupleGo tgt (.ref I) v) Q E s := by
  have key : ∀ a, wpAny M A (do
      let o ← load I
      match o.cls, o.data with
      | .type n, .fields vs =>
        if ["enumerate", "zip", "dict_itemiterator", "dict_reverseitemiterator", "odict_iterator", "itertools.zip_longest", "itertools.pairwise"].contains n && vs[0]? == some (rawInt a) then
          rule "for.unpacks-the-owned-tuple"
          updateField I 0 .none
      | _, _ => pure ()) Q E s := fun a => by
    refine wpAny_bind (wpAny_load ho ?_)
    rw [hc, hd]
    dsimp only
    rw [hn, Bool.false_and]
    exact wpAny_pure hq
  cases tgt with
  | Tuple _ _ _ =>
    cases v with
    | ref a => exact key a
    | _ => exact wpAny_pure hq
  | List _ _ =>
    cases v with
    | ref a => exact key a
    | _ => exact wpAny_pure hq
  | _ => exact wpAny_pure hq
noncomputable def St1 (st : Nat → Obj → Prop) (i : Nat) (I : Addr) (objs : Lg) : Prop := ∃ o, objs = [(I, o)] ∧ st i o
theorem walking1 {tgt : Expr} {fz₀ : Lg} {ρ₀ : List Addr} {xs : List V} {KH : List MO → Prop} {st : Nat → Obj → Prop} {n : String} {fl : Nat → Array Value}
    (hst : ∀ i o, st i o → o.cls = .type n ∧ o.data = .fields (fl i)) (hn : (["enumerate", "zip", "dict_itemiterator", "dict_reverseitemiterator", "odict_iterator", "itertools.zip_longest", "itertools.pairwise"].contains n) = false)
    (self : ∀ (i : Nat) (I : Addr) (o : Obj) (s : Shared) (Q : Value → Shared → Prop) (E : Value → Shared → Prop), st i o → s.heap.get? I = some o → Q (.ref I) s → wpAny c.M c.A (pyIter (.ref I)) Q E s)
    (item : ∀ (i : Nat) (x : V), xs[i]? = some x → ∀ (e : Sc) (vars : Vars) (H : List MO) (I : Addr) (o : Obj) (fz : Lg) (ρ : List Addr) (s : Shared) (ys : Lg) (g : Heap) (Q : Option Value → Shared → Prop) (E : Value → Shared → Prop), KH H → Ext fz₀ fz ρ₀ ρ → st i o →
      Rep c e vars H fz ρ ((I, o) :: ys) g s.heap s.toks → (∀ v h' tk' o', s.toks ≤ tk' → VR fz ρ v x → Heap.ExtBut I s.heap h' → h'.get? I = some o' → st (i + 1) o' → Q (some v) { s with heap := h', toks := tk' }) → wpAny c.M c.A (pyNext (.ref I)) Q E s)
    (over : ∀ (i : Nat), xs[i]? = none → ∀ (e : Sc) (vars : Vars) (H : List MO) (I : Addr) (o : Obj) (fz : Lg) (ρ : List Addr) (s : Shared) (ys : Lg) (g : Heap) (Q : Option Value → Shared → Prop) (E : Value → Shared → Prop), KH H → Ext fz₀ fz ρ₀ ρ → st i o →
      Rep c e vars H fz ρ ((I, o) :: ys) g s.heap s.toks → (∀ h', Heap.ExtBut I s.heap h' → Q none { s with heap := h' }) → wpAny c.M c.A (pyNext (.ref I)) Q E s) : Walking c tgt fz₀ ρ₀ xs KH (St1 st) := by
  have pl : ∀ i o, st i o → Plain o := fun i o h => Plain.fields (hst i o h).2
  refine ⟨?_, ?_, ?_, ?_⟩
  · (intro i x hx e vars H I objs fz ρ s ys g Q E hK X q1_ R k; (refine e12 q1_ fun o q8_ h => ?_; try clear q1_; subst q8_))
    refine item i x hx e vars H I o fz ρ s ys g _ E hK X h R fun v h' tk' o' hle hv hs ho hst' => ⟨v, rfl, ?_⟩
    refine letgo_other ho (hst _ _ hst').1 (hst _ _ hst').2 hn ?_
    exact k v h' tk' fz [(I, o')] Ext.refl hv ⟨o', rfl, hst'⟩ ((Rep.updE R hs ho (pl _ _ h)).up hle)
  · (intro i hx e vars H I objs fz ρ s ys g Q E hK X q2_ R k; (refine e12 q2_ fun o q9_ h => ?_; try clear q2_; subst q9_))
    exact over i hx e vars H I o fz ρ s ys g Q E hK X h R fun h' hs => k h' (Rep.endY R hs (pl _ _ h))
  · (intro i I objs q3_ p hp; (refine e12 q3_ fun o q10_ h => ?_; try clear q3_; subst q10_))
    rw [List.mem_singleton.mp hp]; exact pl _ _ h
  · (intro i e vars H I objs fz ρ s ys g Q E q4_ R hq; (refine e12 q4_ fun o q11_ h => ?_; try clear q4_; subst q11_))
    exact self i I o s Q E h (Rep.getY R) hq

noncomputable def IterSt (ty : String) (v : Value) (i : Nat) (o : Obj) : Prop := o.cls = .type ty ∧ o.data = .fields #[v, .int i 0]
theorem VRs.none {fz : Lg} {ρ : List Addr} {vs : List Value} {xs : List V} (h : VRs fz ρ vs xs) {i : Nat} (e : xs[i]? = none) : vs[i]? = none := by
  rw [List.getElem?_eq_none_iff] at e ⊢
  rw [h.length]; exact e
theorem walk_lst {tgt : Expr} {xs : List V} : Walk c tgt (.lst xs) xs (fun _ => True) := fun v fz₀ ρ₀ hv => by
  induction hv using VR.lstE with
  | k hm hr =>
    rename_i a vs n
    refine ⟨St1 (IterSt "list_iterator" (.ref a)), fun fm => walking1 (n := "list_iterator") (fl := fun i => #[.ref a, .int i 0]) (fun i o h => h) (by decide) (fun i I o s Q E h ho hq => wpAny_pyIter_listiter ⟨_, ho, h.1, h.2⟩ hq)
      (fun i x hx e vars H I o fz ρ s ys g Q E _ X hst R k => ?_) (fun i hx e vars H I o fz ρ s ys g Q E _ X hst R k => ?_), fun e vars H s ys g Q E _ R k => ?_⟩
    · (refine e12 (hr.get hx) fun v e1 hv => ?_)
      refine wpAny_pyNext_list_item (items := vs.toArray) (x := v) (l := a) (i := i) ⟨_, R.getY, hst.1, hst.2⟩ ⟨_, R.getF (X.sub _ hm), rfl, n, rfl⟩ (by simpa using e1) fun h' hi hs => ?_
      (refine e13 hi fun o' ho' hc' hd' => ?_; try clear hi)
      exact k v h' s.toks o' (Nat.le_refl _) (hv.ext X) hs.extBut ho' ⟨hc', hd'⟩
    · exact wpAny_pyNext_list_end (items := vs.toArray) (l := a) (i := i) rfl ⟨_, R.getY, hst.1, hst.2⟩ ⟨_, R.getF (X.sub _ hm), rfl, n, rfl⟩ (by simpa using hr.none hx) k
    · exact wpAny_pyIter_list ⟨_, R.getF hm, rfl, n, rfl⟩ (k _ _ _ s.toks ⟨_, rfl, rfl, rfl⟩ (R.allocY _ rfl))
theorem walk_tup {tgt : Expr} {xs : List V} : Walk c tgt (.tup xs) xs (fun _ => True) := fun v fz₀ ρ₀ hv => by
  induction hv using VR.tupE with
  | k hm hr =>
    rename_i a vs n
    refine ⟨St1 (IterSt "tuple_iterator" (.ref a)), fun fm => walking1 (n := "tuple_iterator") (fl := fun i => #[.ref a, .int i 0]) (fun i o h => h) (by decide) (fun i I o s Q E h ho hq => wpAny_pyIter_tupleiter ⟨_, ho, h.1, h.2⟩ hq)
      (fun i x hx e vars H I o fz ρ s ys g Q E _ X hst R k => ?_) (fun i hx e vars H I o fz ρ s ys g Q E _ X hst R k => ?_), fun e vars H s ys g Q E _ R k => ?_⟩
    · (refine e12 (hr.get hx) fun v e1 hv => ?_)
      refine wpAny_pyNext_tuple_item (items := vs.toArray) (x := v) (t := a) (i := i) ⟨_, R.getY, hst.1, hst.2⟩ ⟨_, R.getF (X.sub _ hm), rfl, n, rfl⟩ (by simpa using e1) fun h' hi hs => ?_
      (refine e13 hi fun o' ho' hc' hd' => ?_; try clear hi)
      exact k v h' s.toks o' (Nat.le_refl _) (hv.ext X) hs.extBut ho' ⟨hc', hd'⟩
    · exact wpAny_pyNext_tuple_end (items := vs.toArray) (t := a) (i := i) rfl ⟨_, R.getY, hst.1, hst.2⟩ ⟨_, R.getF (X.sub _ hm), rfl, n, rfl⟩ (by simpa using hr.none hx) k
    · exact wpAny_pyIter_tuple ⟨_, R.getF hm, rfl, n, rfl⟩ (k _ _ _ s.toks ⟨_, rfl, rfl, rfl⟩ (R.allocY _ rfl))
theorem walk_obj {tgt : Expr} {n : Nat} {xs : List V} : Walk c tgt (.obj n) xs (fun H => H[n]? = some (.list xs)) := fun v fz₀ ρ₀ hv => by
  induction hv using VR.objE with
  | k ha =>
    rename_i a
    have key : ∀ {c : Amb} {e : Sc} {vars : Vars} {H : List MO} {fz ys : Lg} {ρ : List Addr} {g h : Heap} {tk : Nat}, Rep c e vars H fz ρ ys g h tk → H[n]? = some (.list xs) → Ext fz₀ fz ρ₀ ρ → ∃ vs, h.IsList a vs.toArray ∧ VRs fz ρ vs xs := fun R hH X => by
      (refine e23 (R.get hH) fun a' o h1 h2 h3 => ?_)
      rw [X.pre _ _ ha] at h1; (replace h1 := Option.some.inj h1; subst h1)
      cases h3 with
      | list hr => exact ⟨_, ⟨_, h2, rfl, _, rfl⟩, hr⟩
    refine ⟨St1 (IterSt "list_iterator" (.ref a)), fun fm => walking1 (n := "list_iterator") (fl := fun i => #[.ref a, .int i 0]) (fun i o h => h) (by decide) (fun i I o s Q E h ho hq => wpAny_pyIter_listiter ⟨_, ho, h.1, h.2⟩ hq)
      (fun i x hx e vars H I o fz ρ s ys g Q E hH X hst R k => ?_) (fun i hx e vars H I o fz ρ s ys g Q E hH X hst R k => ?_), fun e vars H s ys g Q E hH R k => ?_⟩
    · (refine e12 (key R hH X) fun vs hl hr => ?_)
      (refine e12 (hr.get hx) fun v e1 hv => ?_)
      refine wpAny_pyNext_list_item (items := vs.toArray) (x := v) (l := a) (i := i) ⟨_, R.getY, hst.1, hst.2⟩ hl (by simpa using e1) fun h' hi hs => ?_
      (refine e13 hi fun o' ho' hc' hd' => ?_; try clear hi)
      exact k v h' s.toks o' (Nat.le_refl _) hv hs.extBut ho' ⟨hc', hd'⟩
    · (refine e12 (key R hH X) fun vs hl hr => ?_)
      exact wpAny_pyNext_list_end (items := vs.toArray) (l := a) (i := i) rfl ⟨_, R.getY, hst.1, hst.2⟩ hl (by simpa using hr.none hx) k
    · (refine e12 (key R hH Ext.refl) fun vs hl hr => ?_)
      exact wpAny_pyIter_list hl (k _ _ _ s.toks ⟨_, rfl, rfl, rfl⟩ (R.allocY _ rfl))
theorem walk_str {tgt : Expr} {x : Str} {r : Tok → Prop} (ha : x.cps.all (· < 128) = true) : Walk c tgt (.strP x r) (x.cps.toList.map fun k => V.strP ⟨#[k]⟩ fun t => c.n ≤ t) (fun _ => True) := fun v fz₀ ρ₀ hv => by
  induction hv using VR.strE with
  | k t hr =>
    refine ⟨St1 (IterSt "str_ascii_iterator" (.str x t)), fun fm => walking1 (n := "str_ascii_iterator") (fl := fun i => #[.str x t, .int i 0]) (fun i o h => h) (by decide) (fun i I o s Q E h ho hq => wpAny_pyIter_striter_ascii ⟨_, ho, h.1, h.2⟩ hq)
      (fun i y hx e vars H I o fz ρ s ys g Q E _ X hst R k => ?_) (fun i hx e vars H I o fz ρ s ys g Q E _ X hst R k => ?_), fun e vars H s ys g Q E _ R k => ?_⟩
    · rw [List.getElem?_map] at hx
      (refine e12 (Option.map_eq_some_iff.mp hx) fun cp e1 e2 => ?_)
      subst e2
      refine wpAny_pyNext_ascii_item (x := x) (i := i) (c := cp) ⟨_, R.getY, hst.1, hst.2⟩ (by simpa using e1) fun h' hi hs => ?_
      (refine e13 hi fun o' ho' hc' hd' => ?_; try clear hi)
      exact k _ h' (s.toks + 1) o' (Nat.le_succ _) (.str _ _ R.lo) hs.extBut ho' ⟨hc', hd'⟩
    · rw [List.getElem?_map, Option.map_eq_none_iff] at hx
      exact wpAny_pyNext_ascii_end (x := x) (i := i) rfl ⟨_, R.getY, hst.1, hst.2⟩ (by simpa using hx) k
    · exact wpAny_pyIter_ascii ha (k _ _ _ s.toks ⟨_, rfl, rfl, rfl⟩ (R.allocY _ rfl))

noncomputable def TAs (c : Amb) (e : Sc) (H : List MO) (target : Expr) (x : V) (vars vars1 : Vars) : Prop :=
  ∀ (v : Value) (s : Shared) (fz ys : Lg) (ρ : List Addr) (g : Heap) (Q : Unit → Shared → Prop) (E : Value → Shared → Prop), Rep c e vars H fz ρ ys g s.heap s.toks → VR fz ρ v x →
    (∀ h' tk', Rep c e vars1 H fz ρ ys g h' tk' → Q () { s with heap := h', toks := tk' }) → wpAny c.M c.A (assign target e.env v) Q E s
theorem TAs_name {x : Str} {p : Pos} {v : V} (hx : TStore c e x) : TAs c e H (.Name x p) v vars (setv x v vars) := fun v' s fz ys ρ g Q E R hv k =>
  wpAny_assign_Name (store hx R hv k)

inductive ForR (c : Amb) (e : Sc) (target : Expr) (body : List Stmt) (orelse : List Stmt) (KH : List MO → Prop) : List V → Vars → List MO → Fl → Vars → List MO → Prop
  | done {vars vars' : Vars} {H H' : List MO} {f : Fl} : KH H → TS c e vars H orelse f vars' H' → ForR c e target body orelse KH [] vars H f vars' H'
  | go {x : V} {xs : List V} {vars vars1 vars2 vars' : Vars} {H H1 H' : List MO} {fl f : Fl} : KH H → TAs c e H target x vars vars1 → TS c e vars1 H body fl vars2 H1 → fl.goes = true → ForR c e target body orelse KH xs vars2 H1 f vars' H' → ForR c e target body orelse KH (x :: xs) vars H f vars' H'
  | brk {x : V} {xs : List V} {vars vars1 vars2 : Vars} {H H1 : List MO} : KH H → TAs c e H target x vars vars1 → TS c e vars1 H body .brk vars2 H1 → ForR c e target body orelse KH (x :: xs) vars H .next vars2 H1
  | ret {x r : V} {xs : List V} {vars vars1 : Vars} {H H1 : List MO} : KH H → TAs c e H target x vars vars1 → TS c e vars1 H body (.ret r) [] H1 → ForR c e target body orelse KH (x :: xs) vars H (.ret r) [] H1

theorem drop_nx {α : Type} {xs : List α} {i : Nat} {x : α} {r : List α} (q : x :: r = xs.drop i) : xs[i]? = some x ∧ r = xs.drop (i + 1) := by
  constructor
  · have := List.getElem?_drop (xs := xs) (i := i) (j := 0)
    rw [← q] at this; simpa using this.symm
  · rw [← List.tail_drop, ← q]; rfl
theorem drop_end {α : Type} {xs : List α} {i : Nat} (q : [] = xs.drop i) : xs[i]? = none := by
  have := List.getElem?_drop (xs := xs) (i := i) (j := 0)
  rw [← q] at this; simpa using this.symm
theorem ForR.run {target : Expr} {body orelse : List Stmt} {KH : List MO → Prop} {f : Fl} {H' : List MO} {fz₀ : Lg} {ρ₀ : List Addr} {ws xs : List V} {St : Nat → Addr → Lg → Prop} (W : Walking c target fz₀ ρ₀ xs KH St)
    (h : ForR c e target body orelse KH ws vars H f vars' H') : ∀ (i : Nat), ws = xs.drop i → ∀ (I : Addr) (objs : Lg) (s : Shared) (fz ys : Lg) (ρ : List Addr) (g : Heap) (R : Result → Shared → Prop),
    St i I objs → Ext fz₀ fz ρ₀ ρ → Rep c e vars H fz ρ (objs ++ ys) g s.heap s.toks →
    (∀ (v : Flow) (h' : Heap) (tk' : Nat) (g' : Heap) (fz' : Lg) (ρ' : List Addr), KtsTurn c.fs g g' → Ext fz fz' ρ ρ' → FlR fz' ρ' v f → Rep c e vars' H' fz' ρ' ys g' h' tk' → R (.ok v) { s with heap := h', toks := tk' }) →
    codeAny c.M c.A (.forLoop target (.ref I) body orelse e.env) R s := by
  induction h with
  | done hK h1 =>
    intro i hi I objs s fz ys ρ g R hst X Rp k
    refine codeAny_for1 (W.over i (drop_end hi) e _ _ I objs fz ρ s ys g _ _ hK X hst Rp fun h' R1 => ?_)
    exact h1 _ _ _ _ _ _ _ R1 k
  | go hK h1 h2 h3 _ ih =>
    intro i hi I objs s fz ys ρ g R hst X Rp k
    (refine e02 (drop_nx hi) fun hx hi' => ?_)
    refine codeAny_for1 (wpAny_mono (W.item i _ hx e _ _ I objs fz ρ s ys g (fun v s₂ => wpAny c.M c.A (assign target e.env v) _ _ s₂) _ hK X hst Rp fun v h' tk' fz1 objs' X1 hv hst' R1 => ?_) (fun r s₁ q => by (revert q; refine fun q13_ => e12 q13_ fun v q12_ q => ?_; try clear q13_; subst q12_); exact q) fun _ _ q => q)
    refine h1 v _ _ _ _ _ _ _ R1 hv fun h2' tk2 R2 => ?_
    refine h2 _ _ _ _ _ _ _ R2 fun f h' tk' g' fz' ρ' T X' p R3 => ?_
    cases p with
    | next => exact ih (i + 1) hi' I objs' _ _ _ _ _ _ hst' ((X.trans X1).trans X') R3 fun v h' tk' g' fz' ρ' T2 X2 p R' => k v h' tk' g' fz' ρ' (T.trans T2) ((X1.trans X').trans X2) p R'
    | cont => exact ih (i + 1) hi' I objs' _ _ _ _ _ _ hst' ((X.trans X1).trans X') R3 fun v h' tk' g' fz' ρ' T2 X2 p R' => k v h' tk' g' fz' ρ' (T.trans T2) ((X1.trans X').trans X2) p R'
    | brk => exact ft h3
    | ret _ => exact ft h3
  | brk hK h1 h2 =>
    intro i hi I objs s fz ys ρ g R hst X Rp k
    (refine e02 (drop_nx hi) fun hx hi' => ?_)
    refine codeAny_for1 (wpAny_mono (W.item i _ hx e _ _ I objs fz ρ s ys g (fun v s₂ => wpAny c.M c.A (assign target e.env v) _ _ s₂) _ hK X hst Rp fun v h' tk' fz1 objs' X1 hv hst' R1 => ?_) (fun r s₁ q => by (revert q; refine fun q15_ => e12 q15_ fun v q14_ q => ?_; try clear q15_; subst q14_); exact q) fun _ _ q => q)
    refine h1 v _ _ _ _ _ _ _ R1 hv fun h2' tk2 R2 => ?_
    refine h2 _ _ _ _ _ _ _ R2 fun f h' tk' g' fz' ρ' T X' p R3 => ?_
    cases p
    exact k .next h' tk' g' fz' ρ' T (X1.trans X') .next (R3.dropY (W.stop _ _ _ hst'))
  | ret hK h1 h2 =>
    intro i hi I objs s fz ys ρ g R hst X Rp k
    (refine e02 (drop_nx hi) fun hx hi' => ?_)
    refine codeAny_for1 (wpAny_mono (W.item i _ hx e _ _ I objs fz ρ s ys g (fun v s₂ => wpAny c.M c.A (assign target e.env v) _ _ s₂) _ hK X hst Rp fun v h' tk' fz1 objs' X1 hv hst' R1 => ?_) (fun r s₁ q => by (revert q; refine fun q17_ => e12 q17_ fun v q16_ q => ?_; try clear q17_; subst q16_); exact q) fun _ _ q => q)
    refine h1 v _ _ _ _ _ _ _ R1 hv fun h2' tk2 R2 => ?_
    refine h2 _ _ _ _ _ _ _ R2 fun f h' tk' g' fz' ρ' T X' p R3 => ?_
    cases p with
    | ret hv => exact k _ h' tk' g' fz' ρ' T (X1.trans X') (.ret hv) (R3.dropY (W.stop _ _ _ hst'))
theorem TS1_for {target iter : Expr} {body orelse : List Stmt} {pos : Pos} {f : Fl} {H' : List MO} {xs : List V} {KH : List MO → Prop} (h1 : ItR c e vars H iter target xs KH H1) (h2 : ForR c e target body orelse KH xs vars H1 f vars' H')
    (hfold : ∀ x, foldedSetIterable iter e.env x = pure x) : TS1 c e vars H (.For target iter body orelse pos) f vars' H' := fun s fz ys ρ g Q E R k => by
  refine wpAny_For (h1 _ _ _ _ _ _ _ R fun fz1 ρ1 g1 St I objs hh1 tk1 T1 X1 W hst R1 => ?_) hfold
  refine h2.run (W c.fm) 0 rfl I objs _ fz1 ys ρ1 g1 _ hst Ext.refl R1 fun v h' tk' g' fz' ρ' T X p R' => k v h' tk' g' fz' ρ' (T1.trans T) (X1.trans X) p R'
end Mine
end

section
open PySem PySem.W PyProof.Rows PySem.Calls PyProof.Rows.LCg
set_option Elab.async false
set_option linter.all false
set_option maxRecDepth 100000
set_option maxHeartbeats 1000000
namespace Mine
variable {c : Amb} {e : Sc} {vars vars' vars'' : Vars} {H H1 H2 H3 : List MO}

theorem TS_weak {ss : List Stmt} {f : Fl} {vars1 : Vars} (h : TS c e vars H ss f vars1 H1) (k : ∀ x v, vars'.lookup x = some v → vars1.lookup x = some v) : TS c e vars H ss f vars' H1 := fun s fz ys ρ g Q E R kk =>
  h _ _ _ _ _ _ _ R fun v h' tk' g' fz' ρ' T X p R' => kk v h' tk' g' fz' ρ' T X p (R'.forget k)
theorem TS_strong {ss : List Stmt} {f : Fl} {vars1 : Vars} (h : TS c e vars1 H ss f vars' H1) (k : ∀ x v, vars1.lookup x = some v → vars.lookup x = some v) : TS c e vars H ss f vars' H1 := fun s fz ys ρ g Q E R kk =>
  h _ _ _ _ _ _ _ (R.forget k) kk

theorem TS_while {test : Expr} {body rest : List Stmt} {pos : Pos} {f : Fl} {H' : List MO} (I : Nat → Vars → List MO → Prop) (Done : Vars → List MO → Prop) (n : Nat) (hI : I n vars H)
    (step : ∀ n vars H, I n vars H → (∃ H1, TB c e vars H (isTrue test e.env (eval test e.env)) false H1 ∧ Done vars H1) ∨
      (∃ H1 H2 fl vars1 m, TB c e vars H (isTrue test e.env (eval test e.env)) true H1 ∧ TS c e vars H1 body fl vars1 H2 ∧ fl.goes = true ∧ m < n ∧ I m vars1 H2) ∨
      (∃ H1 H2 vars1, TB c e vars H (isTrue test e.env (eval test e.env)) true H1 ∧ TS c e vars H1 body .brk vars1 H2 ∧ Done vars1 H2) ∨
      (∃ H1 x, TB c e vars H (isTrue test e.env (eval test e.env)) true H1 ∧ TS c e vars H1 body (.ret x) [] H' ∧ f = .ret x ∧ vars' = []))
    (hdone : ∀ vars H, Done vars H → TS c e vars H rest f vars' H') : TS c e vars H (.While test body [] pos :: rest) f vars' H' := by
  have key : ∀ n vars H, I n vars H → (∃ vars1 H1, WhR c e test body vars H .next vars1 H1 ∧ Done vars1 H1) ∨ (∃ x, WhR c e test body vars H (.ret x) [] H' ∧ f = .ret x ∧ vars' = []) := by
    intro n
    induction n using Nat.strongRecOn with
    | _ n ih =>
      intro vars H h
      (refine Or.elim (step n vars H h) (fun o219_ => ?_) (fun o220_ => ?_); rotate_left 1; (refine Or.elim o220_ (fun o64_ => ?_) (fun o65_ => ?_); rotate_left 1; try clear o220_; (refine Or.elim o65_ (fun o110_ => ?_) (fun o111_ => ?_); rotate_left 1; try clear o65_; rcases o111_ with ⟨H1, x, a, b, d, hv⟩; rotate_right 1; try clear o65_; rcases o110_ with ⟨H1, H2, vars1, a, b, d⟩); rotate_right 1; try clear o220_; (refine e41 o64_ fun H1 H2 fl vars1 q19_ => ?_; try clear o64_; obtain ⟨m, a, b, d, hm, h2⟩ := q19_)); rotate_right 1; (refine e12 o219_ fun H1 a b => ?_; try clear o219_))
      · exact .inl ⟨vars, H1, .done a, b⟩
      · (refine Or.elim (ih m hm vars1 H2 h2) (fun o221_ => ?_) (fun o222_ => ?_); rotate_left 1; (refine e13 o222_ fun x w e1 e2 => ?_; try clear o222_); rotate_right 1; (refine e22 o221_ fun v2 H3 w dd => ?_; try clear o221_))
        · exact .inl ⟨v2, H3, .go a b d w, dd⟩
        · exact .inr ⟨x, .go a b d w, e1, e2⟩
      · exact .inl ⟨vars1, H2, .brk a b, d⟩
      · exact .inr ⟨x, .ret a b, d, hv⟩
  (refine Or.elim (key n vars H hI) (fun o223_ => ?_) (fun o224_ => ?_); rotate_left 1; (refine e13 o224_ fun x w e1 e2 => ?_; try clear o224_); rotate_right 1; (refine e22 o223_ fun v1 H1 w d => ?_; try clear o223_))
  · exact TS_next (TS1_while w) (hdone _ _ d)
  · subst e1 e2
    exact TS_ret (TS1_while w)

inductive WhO (c : Amb) (e : Sc) (test : Expr) (body : List Stmt) (I : Nat → Vars → List MO → Prop) (Done : Vars → List MO → Prop) (f : Fl) (vars' : Vars) (H' : List MO) (n : Nat) (vars : Vars) (H : List MO) : Prop
  | stop {H1 : List MO} : TB c e vars H (isTrue test e.env (eval test e.env)) false H1 → Done vars H1 → WhO c e test body I Done f vars' H' n vars H
  | go {H1 H2 : List MO} {fl : Fl} {vars1 : Vars} {m : Nat} : TB c e vars H (isTrue test e.env (eval test e.env)) true H1 → TS c e vars H1 body fl vars1 H2 → fl.goes = true → m < n → I m vars1 H2 → WhO c e test body I Done f vars' H' n vars H
  | brk {H1 H2 : List MO} {vars1 : Vars} : TB c e vars H (isTrue test e.env (eval test e.env)) true H1 → TS c e vars H1 body .brk vars1 H2 → Done vars1 H2 → WhO c e test body I Done f vars' H' n vars H
  | ret {H1 : List MO} {x : V} : TB c e vars H (isTrue test e.env (eval test e.env)) true H1 → TS c e vars H1 body (.ret x) [] H' → f = .ret x → vars' = [] → WhO c e test body I Done f vars' H' n vars H
theorem TS_whileI {test : Expr} {body rest : List Stmt} {pos : Pos} {f : Fl} {H' : List MO} (I : Nat → Vars → List MO → Prop) (Done : Vars → List MO → Prop) (n : Nat) (hI : I n vars H)
    (step : ∀ n vars H, I n vars H → WhO c e test body I Done f vars' H' n vars H) (hdone : ∀ vars H, Done vars H → TS c e vars H rest f vars' H') : TS c e vars H (.While test body [] pos :: rest) f vars' H' :=
  TS_while I Done n hI (fun n vars H h => by
    cases step n vars H h with
    | stop a b => exact .inl ⟨_, a, b⟩
    | go a b d w z => exact .inr (.inl ⟨_, _, _, _, _, a, b, d, w, z⟩)
    | brk a b d => exact .inr (.inr (.inl ⟨_, _, _, a, b, d⟩))
    | ret a b d w => exact .inr (.inr (.inr ⟨_, _, a, b, d, w⟩))) hdone
theorem TS_for {target iter : Expr} {body orelse rest : List Stmt} {pos : Pos} {f : Fl} {H' : List MO} {xs : List V} {KH : List MO → Prop} (I : List V → Vars → List MO → Prop) (Done : Vars → List MO → Prop)
    (h1 : ItR c e vars H iter target xs KH H1) (hI : I xs vars H1)
    (hfold : ∀ x, foldedSetIterable iter e.env x = pure x)
    (step : ∀ x xs vars H, I (x :: xs) vars H → KH H ∧
      ((∃ H1 fl vars1 vars2, TAs c e H target x vars vars1 ∧ TS c e vars1 H body fl vars2 H1 ∧ fl.goes = true ∧ I xs vars2 H1) ∨
      (∃ H1 vars1 vars2, TAs c e H target x vars vars1 ∧ TS c e vars1 H body .brk vars2 H1 ∧ Done vars2 H1) ∨
      (∃ r vars1, TAs c e H target x vars vars1 ∧ TS c e vars1 H body (.ret r) [] H' ∧ f = .ret r ∧ vars' = [])))
    (hend : ∀ vars H, I [] vars H → KH H ∧ ((∃ vars2 H2, TS c e vars H orelse .next vars2 H2 ∧ Done vars2 H2) ∨ (∃ r, TS c e vars H orelse (.ret r) [] H' ∧ f = .ret r ∧ vars' = [])))
    (hdone : ∀ vars H, Done vars H → TS c e vars H rest f vars' H') : TS c e vars H (.For target iter body orelse pos :: rest) f vars' H' := by
  have key : ∀ xs vars H, I xs vars H → (∃ vars1 H1, ForR c e target body orelse KH xs vars H .next vars1 H1 ∧ Done vars1 H1) ∨ (∃ x, ForR c e target body orelse KH xs vars H (.ret x) [] H' ∧ f = .ret x ∧ vars' = []) := by
    intro xs
    induction xs with
    | nil =>
      intro vars H h
      (refine e02 (hend vars H h) fun k q18_ => ?_; (refine Or.elim q18_ (fun o66_ => ?_) (fun o67_ => ?_); rotate_left 1; try clear q18_; (refine e13 o67_ fun r a b d => ?_; try clear o67_); rotate_right 1; try clear q18_; (refine e22 o66_ fun v2 H2 a b => ?_; try clear o66_)))
      · exact .inl ⟨v2, H2, .done k a, b⟩
      · exact .inr ⟨r, .done k a, b, d⟩
    | cons y ys ih =>
      intro vars H h
      (refine e02 (step y ys vars H h) fun k q19_ => ?_; (refine Or.elim q19_ (fun o68_ => ?_) (fun o69_ => ?_); rotate_left 1; try clear q19_; (refine Or.elim o69_ (fun o112_ => ?_) (fun o113_ => ?_); rotate_left 1; try clear o69_; rcases o113_ with ⟨r, v1, a, b, d, d2⟩; rotate_right 1; try clear o69_; rcases o112_ with ⟨H1, v1, v2, a, b, d⟩); rotate_right 1; try clear q19_; (refine e44 o68_ fun H1 fl v1 v2 a b d h2 => ?_; try clear o68_)))
      · (refine Or.elim (ih v2 H1 h2) (fun o225_ => ?_) (fun o226_ => ?_); rotate_left 1; (refine e13 o226_ fun x w e1 e2 => ?_; try clear o226_); rotate_right 1; (refine e22 o225_ fun v3 H3 w dd => ?_; try clear o225_))
        · exact .inl ⟨v3, H3, .go k a b d w, dd⟩
        · exact .inr ⟨x, .go k a b d w, e1, e2⟩
      · exact .inl ⟨v2, H1, .brk k a b, d⟩
      · exact .inr ⟨r, .ret k a b, d, d2⟩
  (refine Or.elim (key xs vars H1 hI) (fun o227_ => ?_) (fun o228_ => ?_); rotate_left 1; (refine e13 o228_ fun x w e1 e2 => ?_; try clear o228_); rotate_right 1; (refine e22 o227_ fun v1 H1 w d => ?_; try clear o227_))
  · exact TS_next (TS1_for h1 w hfold) (hdone _ _ d)
  · subst e1 e2
    exact TS_ret (TS1_for h1 w hfold)
inductive ForO (c : Amb) (e : Sc) (target : Expr) (body : List Stmt) (I : List V → Vars → List MO → Prop) (Done : Vars → List MO → Prop) (f : Fl) (vars' : Vars) (H' : List MO) (x : V) (xs : List V) (vars : Vars) (H : List MO) : Prop
  | go {H1 : List MO} {fl : Fl} {vars1 vars2 : Vars} : TAs c e H target x vars vars1 → TS c e vars1 H body fl vars2 H1 → fl.goes = true → I xs vars2 H1 → ForO c e target body I Done f vars' H' x xs vars H
  | brk {H1 : List MO} {vars1 vars2 : Vars} : TAs c e H target x vars vars1 → TS c e vars1 H body .brk vars2 H1 → Done vars2 H1 → ForO c e target body I Done f vars' H' x xs vars H
  | ret {r : V} {vars1 : Vars} : TAs c e H target x vars vars1 → TS c e vars1 H body (.ret r) [] H' → f = .ret r → vars' = [] → ForO c e target body I Done f vars' H' x xs vars H
theorem TS_forI {target iter : Expr} {body orelse rest : List Stmt} {pos : Pos} {f : Fl} {H' : List MO} {xs : List V} {KH : List MO → Prop} (I : List V → Vars → List MO → Prop) (Done : Vars → List MO → Prop)
    (h1 : ItR c e vars H iter target xs KH H1) (hI : I xs vars H1) (hfold : ∀ x, foldedSetIterable iter e.env x = pure x)
    (step : ∀ x xs vars H, I (x :: xs) vars H → KH H ∧ ForO c e target body I Done f vars' H' x xs vars H)
    (hend : ∀ vars H, I [] vars H → KH H ∧ ((∃ vars2 H2, TS c e vars H orelse .next vars2 H2 ∧ Done vars2 H2) ∨ (∃ r, TS c e vars H orelse (.ret r) [] H' ∧ f = .ret r ∧ vars' = [])))
    (hdone : ∀ vars H, Done vars H → TS c e vars H rest f vars' H') : TS c e vars H (.For target iter body orelse pos :: rest) f vars' H' :=
  TS_for I Done h1 hI hfold (fun x xs vars H h => ⟨(step x xs vars H h).1, by
    cases (step x xs vars H h).2 with
    | go a b d w => exact .inl ⟨_, _, _, _, a, b, d, w⟩
    | brk a b d => exact .inr (.inl ⟨_, _, _, a, b, d⟩)
    | ret a b d w => exact .inr (.inr ⟨_, _, a, b, d, w⟩)⟩) hend hdone
theorem TS1_break {pos : Pos} : TS1 c e vars H (.Break pos) .brk vars H := fun s fz ys ρ g Q E R k => wpAny_Break (k .brk s.heap s.toks g fz ρ KtsTurn.refl Ext.refl .brk R)
theorem PO_itemS2 {r q : Tok → Prop} {value slice : Expr} {x : Str} {i : Int} (hh : 0 ≤ i ∧ i < (x.length : Int) ∧ x.length ≤ 16777216)
    (hs : ∀ t u, subscripted slice false (.str x t) (.int i u) = operate [.str x t, .int i u] (getItem (.str x t) (.int i u))) : PO c e vars H (subscriptTail value slice) (.strP x r) (.intP i q) (.str (Txt.item x i)) H :=
  PO_itemS (by lia) (by lia) (by lia) hs
inductive BrS (c : Amb) (e : Sc) (vars : Vars) (H1 : List MO) (b o : List Stmt) (f : Fl) (vars' : Vars) (H2 : List MO) (q : Bool) : Prop
  | t : q = true → TS c e vars H1 b f vars' H2 → BrS c e vars H1 b o f vars' H2 q
  | f : q = false → TS c e vars H1 o f vars' H2 → BrS c e vars H1 b o f vars' H2 q
theorem TS1_ifB {t : Expr} {b o : List Stmt} {pos : Pos} {q : Bool} {f : Fl} (h1 : TB c e vars H (isTrue t e.env (eval t e.env)) q H1) (h2 : BrS c e vars H1 b o f vars' H2 q) : TS1 c e vars H (.If t b o pos) f vars' H2 :=
  TS1_if' h1 (BrS.rec (motive := fun _ => _) (fun x y => .inl ⟨x, y⟩) (fun x y => .inr ⟨x, y⟩) h2)
inductive BrE (c : Amb) (e : Sc) (vars : Vars) (H1 : List MO) (b o : Expr) (x : V) (H2 : List MO) (q : Bool) : Prop
  | t : q = true → TE c e vars H1 (eval b e.env) x H2 → BrE c e vars H1 b o x H2 q
  | f : q = false → TE c e vars H1 (eval o e.env) x H2 → BrE c e vars H1 b o x H2 q
theorem TE_ifB {t b o : Expr} {pos : Pos} {x : V} {q : Bool} (h1 : TB c e vars H (isTrue t e.env (eval t e.env)) q H1) (h2 : BrE c e vars H1 b o x H2 q) : TE c e vars H (eval (.IfExp t b o pos) e.env) x H2 :=
  TE_if' h1 (BrE.rec (motive := fun _ => _) (fun x y => .inl ⟨x, y⟩) (fun x y => .inr ⟨x, y⟩) h2)
inductive SqS (c : Amb) (e : Sc) (vars1 : Vars) (H1 : List MO) (rest : List Stmt) (f1 f : Fl) (vars2 : Vars) (H2 : List MO) : Prop
  | n : f1 = .next → TS c e vars1 H1 rest f vars2 H2 → SqS c e vars1 H1 rest f1 f vars2 H2
  | s : f1 ≠ .next → f = f1 → vars2 = vars1 → H2 = H1 → SqS c e vars1 H1 rest f1 f vars2 H2
theorem TS_sq {st : Stmt} {rest : List Stmt} {f1 f : Fl} {vars1 vars2 : Vars} (h1 : TS1 c e vars H st f1 vars1 H1) (h2 : SqS c e vars1 H1 rest f1 f vars2 H2) : TS c e vars H (st :: rest) f vars2 H2 :=
  TS_seq h1 (SqS.rec (motive := fun _ => _) (fun x y => .inl ⟨x, y⟩) (fun x y z w => .inr ⟨x, y, z, w⟩) h2)
theorem TX_if' {t : Expr} {b o : List Stmt} {pos : Pos} {C : Addr} {q : Bool} (h1 : TB c e vars H (isTrue t e.env (eval t e.env)) q H) (hq : q = true) (h2 : TX c e vars H (execs b e.env) C) : TX c e vars H (exec (.If t b o pos) e.env) C := by
  subst hq; exact TX_if h1 h2
theorem TB_or' {a : Expr} {rest : List Expr} {pos : Pos} {whole : Sem Value} {p q : Bool} (h1 : TB c e vars H (isTrue a e.env (eval a e.env)) p H1) (h2 : (p = true ∧ q = true ∧ H1 = H2) ∨ (p = false ∧ TB c e vars H1 (isTrue (.BoolOp .Or rest pos) e.env whole) q H2)) :
    TB c e vars H (isTrue (.BoolOp .Or (a :: rest) pos) e.env whole) q H2 := by
  (refine Or.elim h2 (fun o229_ => ?_) (fun o230_ => ?_); rotate_left 1; try clear h2; (refine e02 o230_ fun q5_ h => ?_; try clear o230_; subst q5_); rotate_right 1; try clear h2; (refine e03 o229_ fun q6_ q7_ q8_ => ?_; try clear o229_; subst q6_; subst q7_; subst q8_))
  · exact TB_or h1 (fun q => by exact tf q) fun _ => ⟨rfl, rfl⟩
  · exact TB_or h1 (fun _ => h) fun q => by exact ft q
theorem TB_and' {a : Expr} {rest : List Expr} {pos : Pos} {whole : Sem Value} {p q : Bool} (h1 : TB c e vars H (isTrue a e.env (eval a e.env)) p H1) (h2 : (p = false ∧ q = false ∧ H1 = H2) ∨ (p = true ∧ TB c e vars H1 (isTrue (.BoolOp .And rest pos) e.env whole) q H2)) :
    TB c e vars H (isTrue (.BoolOp .And (a :: rest) pos) e.env whole) q H2 := by
  (refine Or.elim h2 (fun o231_ => ?_) (fun o232_ => ?_); rotate_left 1; try clear h2; (refine e02 o232_ fun q9_ h => ?_; try clear o232_; subst q9_); rotate_right 1; try clear h2; (refine e03 o231_ fun q10_ q11_ q12_ => ?_; try clear o231_; subst q10_; subst q11_; subst q12_))
  · exact TB_and h1 (fun q => by exact ft q) fun _ => ⟨rfl, rfl⟩
  · exact TB_and h1 (fun _ => h) fun q => by exact tf q
inductive BrB (c : Amb) (e : Sc) (vars : Vars) (v w : Bool) (H1 : List MO) (t : Sem Bool) (q : Bool) (H2 : List MO) (p : Bool) : Prop
  | s : p = v → q = v → H1 = H2 → BrB c e vars v w H1 t q H2 p
  | n : p = w → TB c e vars H1 t q H2 → BrB c e vars v w H1 t q H2 p
theorem TB_orB {a : Expr} {rest : List Expr} {pos : Pos} {whole : Sem Value} {p q : Bool} (h1 : TB c e vars H (isTrue a e.env (eval a e.env)) p H1) (h2 : BrB c e vars true false H1 (isTrue (.BoolOp .Or rest pos) e.env whole) q H2 p) : TB c e vars H (isTrue (.BoolOp .Or (a :: rest) pos) e.env whole) q H2 :=
  TB_or' h1 (BrB.rec (motive := fun _ => _) (fun x y z => .inl ⟨x, y, z⟩) (fun x y => .inr ⟨x, y⟩) h2)
theorem TB_andB {a : Expr} {rest : List Expr} {pos : Pos} {whole : Sem Value} {p q : Bool} (h1 : TB c e vars H (isTrue a e.env (eval a e.env)) p H1) (h2 : BrB c e vars false true H1 (isTrue (.BoolOp .And rest pos) e.env whole) q H2 p) : TB c e vars H (isTrue (.BoolOp .And (a :: rest) pos) e.env whole) q H2 :=
  TB_and' h1 (BrB.rec (motive := fun _ => _) (fun x y z => .inl ⟨x, y, z⟩) (fun x y => .inr ⟨x, y⟩) h2)
theorem lookup_pre {l l2 : Vars} {y : Str} {v : V} (h : l.lookup y = some v) : (l ++ l2).lookup y = some v := by
  rw [List.lookup_append, h]; rfl
noncomputable abbrev strL (l : List Nat) : Str := ⟨l.toArray⟩
theorem strL_app (a b : List Nat) : strL a ++ strL b = strL (a ++ b) := by
  show (⟨a.toArray ++ b.toArray⟩ : Str) = _
  rw [List.append_toArray]
theorem strL_len (l : List Nat) : (strL l).length = l.length := by show l.toArray.size = _; simp
theorem item_at {x : Str} {i : Nat} {a : Nat} (h : x.cps.toList[i]? = some a) : Txt.item x (i : Int) = strL [a] := by
  have hi : i < x.length := by
    (refine Or.elim (Nat.lt_or_ge i x.cps.toList.length) (fun z => ?_) (fun z => ?_))
    · simpa [Str.length] using z
    · rw [List.getElem?_eq_none z] at h; exact ns h
  unfold Txt.item Txt.charAt
  rw [seqIndex_nat hi]
  simp only [Option.bind_some]
  have : x.cps[i]? = some a := by simpa using h
  rw [this]; rfl
theorem drop_cons {l : List Nat} {i a : Nat} {r : List Nat} (h : l.drop i = a :: r) : l[i]? = some a ∧ l.drop (i + 1) = r := by
  constructor
  · have := List.getElem?_drop (xs := l) (i := i) (j := 0)
    rw [h] at this; simpa using this.symm
  · rw [← List.tail_drop, h]; rfl
end Mine
end

section
open PySem PySem.W PyProof.Rows PySem.Calls PyProof.Rows.LCg
set_option Elab.async false
set_option linter.all false
set_option maxRecDepth 100000
set_option maxHeartbeats 1000000
namespace Mine
variable {c : Amb} {e : Sc} {vars vars' vars'' : Vars} {H H1 H2 H3 : List MO}
section
variable {r q p : Tok → Prop}
theorem PC_find3 {x y : Str} {i : Int} : PC c e vars H (.builtin "str.find") [.strP x r, .strP y q, .intP i p] (.int (Txt.find3 x y i)) H := fun vs s fz ys ρ g Q E R hv k => by
  induction hv using VRs.consE with
  | k a b =>
    induction b using VRs.consE with
    | k b d =>
      induction d using VRs.consE with
      | k d f =>
        induction f using VRs.nilE; induction a using VR.strE; induction b using VR.strE; induction d using VR.intE
        exact fin_flat (fun Q E k => SC.find3 (k _ _ (.int _ _ trivial))) R k
theorem PC_split' {x y : Str} {l : List Str} (hs : Txt.split x y = l) (hy : (y.length == 0) = false) (hx : x.length + 2 ≤ 16777216) : PC c e vars H (.builtin "str.split") [.strP x r, .strP y q] (.lst (l.map V.str)) H := hs ▸ PC_split hy hx
theorem PC_lenS' {l : List Str} (h : l.length ≤ 16777216) : PC c e vars H (.builtin "len") [.lst (l.map V.str)] (.int l.length) H := by
  have := PC_lenF (c := c) (e := e) (vars := vars) (H := H) (xs := l.map V.str) (by rw [List.length_map]; exact h)
  rw [List.length_map] at this; exact this
end
end Mine
end

section
open PySem PySem.W PyProof.Rows PySem.Calls PyProof.Rows.LCg
set_option Elab.async false
set_option linter.all false
set_option maxRecDepth 100000
set_option maxHeartbeats 1000000
namespace Mine
variable {c : Amb} {e : Sc} {vars vars' vars'' : Vars} {H H1 H2 H3 : List MO}

theorem Rep.conv {fz ys : Lg} {ρ : List Addr} {g h : Heap} {tk : Nat} (R : Rep c e vars H fz ρ ys g h tk) (k : ∀ x v', vars'.lookup x = some v' → ∃ v, vars.lookup x = some v ∧ ∀ a, VR fz ρ a v → VR fz ρ a v') : Rep c e vars' H fz ρ ys g h tk :=
  let ⟨m, os, xs, l, o, f⟩ := R.ex
  ⟨R.gr, R.lo, R.env, m, os, xs, l, o, ⟨fun x v' q => by
    (refine e12 (k x v' q) fun v h1 h2 => ?_)
    (refine e12 (f.vars x v h1) fun a h3 h4 => ?_)
    exact ⟨a, h3, h2 a h4⟩, f.cells, f.inj, f.loc, f.fr⟩⟩
noncomputable abbrev cohL (t₀ : Nat) (xs : List Int) : List V := xs.map fun v => .intP v (· = t₀ + v.toNat)
theorem coh_vrs {fz : Lg} {ρ : List Addr} {t₀ : Nat} : ∀ {xs : List Int}, VRs fz ρ (xs.map fun v => Value.int v (t₀ + v.toNat)) (cohL t₀ xs)
  | [] => .nil
  | v :: r => .cons (.int v _ rfl) coh_vrs
theorem lstC_open {fz : Lg} {ρ : List Addr} {a : Value} {xs : List Int} (h : VR fz ρ a (.lstC xs)) : ∃ t₀, 1 ≤ t₀ ∧ VR fz ρ a (.lst (cohL t₀ xs)) := by
  cases h with
  | lstC hm h0 => exact ⟨_, h0, .lst hm coh_vrs⟩
theorem vrs_coh {fz : Lg} {ρ : List Addr} {t₀ : Nat} : ∀ {xs : List Int} {vs : List Value}, VRs fz ρ vs (cohL t₀ xs) → vs = xs.map fun v => Value.int v (t₀ + v.toNat)
  | [], _, .nil => rfl
  | v :: r, _, .cons h q => by
    induction h using VR.intE with
    | k t e => rw [e, vrs_coh q]; rfl
theorem lstC_close {fz : Lg} {ρ : List Addr} {a : Value} {t₀ : Nat} {xs : List Int} (h0 : 1 ≤ t₀) (h : VR fz ρ a (.lst (cohL t₀ xs))) : VR fz ρ a (.lstC xs) := by
  induction h using VR.lstE with
  | k hm hr => rw [vrs_coh hr] at hm; exact .lstC hm h0
theorem Tri.openC {α : Type} {t : Sem α} {P : Lg → List Addr → α → Prop} {x : Str} {xs : List Int} (hx : vars.lookup x = some (.lstC xs)) (h : ∀ t₀, 1 ≤ t₀ → Tri c e (setv x (.lst (cohL t₀ xs)) vars) H t P vars' H') : Tri c e vars H t P vars' H' := fun s fz ys ρ g Q E R k => by
  obtain ⟨m, os, ls, l, o, f⟩ := R.ex
  (refine e12 (f.vars x _ hx) fun a h1 h2 => ?_)
  (refine e12 (lstC_open h2) fun t₀ h0 h3 => ?_)
  refine h t₀ h0 s fz ys ρ g Q E ⟨R.gr, R.lo, R.env, m, os, ls, l, o, ⟨fun y v q => ?_, f.cells, f.inj, f.loc, f.fr⟩⟩ k
  rw [lookup_setv] at q
  by_cases hy : y = x
  · rw [if_pos hy] at q; (replace q := Option.some.inj q; subst q); subst hy; exact ⟨a, h1, h3⟩
  · rw [if_neg hy] at q; exact f.vars y v q
theorem Tri.closeC {α : Type} {t : Sem α} {P : Lg → List Addr → α → Prop} {x : Str} {xs : List Int} {t₀ : Nat} (h0 : 1 ≤ t₀) {vars1 : Vars} (h : Tri c e vars H t P vars1 H') (hx : vars1.lookup x = some (.lst (cohL t₀ xs))) : Tri c e vars H t P (setv x (.lstC xs) vars1) H' := fun s fz ys ρ g Q E R k =>
  h s fz ys ρ g Q E R fun v h' tk' g' fz' ρ' T X p R' => k v h' tk' g' fz' ρ' T X p (R'.conv fun y v' q => by
    rw [lookup_setv] at q
    by_cases hy : y = x
    · rw [if_pos hy] at q; (replace q := Option.some.inj q; subst q); subst hy; exact ⟨_, hx, fun a ha => lstC_close h0 ha⟩
    · rw [if_neg hy] at q; exact ⟨v', q, fun a ha => ha⟩)

noncomputable def TEF (c : Amb) (e : Sc) (vars : Vars) (H : List MO) (t : Sem Value) (x : Str) (H' : List MO) : Prop :=
  ∀ (s : Shared) (fz ys : Lg) (ρ : List Addr) (g : Heap) (Q : Value → Shared → Prop) (E : Value → Shared → Prop),
    Rep c e vars H fz ρ ys g s.heap s.toks →
    (∀ (u : Tok) (h' : Heap) (tk' : Nat) (g' : Heap) (fz' : Lg) (ρ' : List Addr), KtsTurn c.fs g g' → Ext fz fz' ρ ρ' → 1 ≤ u → u < tk' → Rep c e vars H' fz' ρ' ys g' h' tk' → Q (.str x u) { s with heap := h', toks := tk' }) →
    wpAny c.M c.A t Q E s
theorem TEF_str {x : Str} {k : Nat} {pos : Pos} : TEF c e vars H (eval (.Constant (.str x) k pos) e.env) x H := fun s fz ys ρ g Q E R k =>
  wpAny_Constant_str (k s.toks s.heap _ g fz ρ KtsTurn.refl Ext.refl (Nat.le_trans R.gr.ok.n1 R.lo) (Nat.lt_succ_self _) (R.up (Nat.le_succ _)))
theorem TEF_lower {o : Expr} {apos pos : Pos} {x : Str} {r : Tok → Prop} (ho : TE c e vars H (eval o e.env) (.strP x r) H1) (hx : x.length ≤ 5592405)
    (hbase : attributeBase o (Str.ofString "lower") e.env (eval o e.env) = eval o e.env) (hline : (apos.endLine == pos.line) = true) :
    TEF c e vars H (eval (.Call (.Attribute o (Str.ofString "lower") apos) [] [] pos) e.env) (Txt.lower x) H1 := fun s fz ys ρ g Q E R k => by
  refine wpAny_Call_method_lateS hbase (by rfl) hline (ho _ _ _ _ _ _ _ R fun v hh1 tk1 g1 fz1 ρ1 T1 X1 v1 R1 => ?_)
  induction v1 using VR.strE
  refine ⟨"str", "str.lower", F.plainAttrs_str, F.slot_str_lower, F.type_str_lower, typeIs_str _ _ _, (fun _ e => nomatch e), ?_⟩
  refine callWith_of (P := fun h => (top0.heap_1 c.w.params).In h) rfl Kept.builtin (evalArgs_nil3 ⟨R1.In, ?_⟩)
  refine SCL.lower hx fun _ => ?_
  exact k tk1 hh1 (tk1 + 1) g1 fz1 ρ1 T1 X1 (Nat.le_trans R1.gr.ok.n1 R1.lo) (Nat.lt_succ_self _) (R1.up (Nat.le_succ _))
theorem TE_callF {lv : Nat} {x : Str} {np pos : Pos} {a0 a1 : Expr} {f : Value} {x0 : V} {x1 : Str} {r : V} (hm : ∀ u, 1 ≤ u → Meets c.w lv (u + 1) f [x0, .strP x1 (· = u)] H2 r H3) (hr : Room c lv)
    (hf : TE c e vars H (eval (.Name x np) e.env) (.con f) H) (hk : Kept c f) (ha : TE c e vars H (eval a0 e.env) x0 H1) (hb : TEF c e vars H1 (eval a1 e.env) x1 H2)
    (he : starEach [a0, a1] e.env = [(false, eval a0 e.env), (false, eval a1 e.env)]) : TE c e vars H (eval (.Call (.Name x np) [a0, a1] [] pos) e.env) r H3 := fun s fz ys ρ g Q E R k => by
  refine wpAny_Call_Name_kw (hf _ _ _ _ _ _ _ R fun v hh1 tk1 g1 fz1 ρ1 T1 X1 v1 R1 => ?_)
  cases v1
  show wpAny _ _ (callWith pos f [] (backTo pos (starEach [a0, a1] e.env)) []) _ _ _
  rw [he]
  refine callWith_of (P := fun h => (top0.heap_1 c.w.params).In h) rfl hk ?_
  refine evalArgs_plain (spliced_cons (ha _ _ _ _ _ _ _ R1 fun b hh2 tk2 g2 fz2 ρ2 T2 X2 v2 R2 => ?_))
  refine spliced_cons (hb _ _ _ _ _ _ _ R2 fun u hh3 tk3 g3 fz3 ρ3 T3 X3 h1 hu R3 => spliced_nil ⟨R3.In, ?_⟩)
  obtain ⟨m, os, ls, l, o, f⟩ := R3.ex
  have p : ∀ (A : Lg), (ls ++ (A ++ ys)).Perm (A ++ (ls ++ ys)) := fun A => by
    rw [← List.append_assoc, ← List.append_assoc]
    exact List.Perm.append_right ys List.perm_append_comm
  refine wpAny_with_toks (Nat.le_refl _) (wpAny_mono ((hm u h1).wp c _ m fz3 (ls ++ ys) ρ3 os g3 _ _ E rfl R3.gr (Nat.succ_le_of_lt hu) hr (l.perm (p _)) o (.cons (v2.ext X3) (.cons (.str _ _ rfl) .nil)) fun v h' tk' g' fz' ρ' os' T G' X l' o' hv' => ?_) (fun _ _ x => x) fun _ _ x _ => x)
  intro hle
  exact k v h' tk' g' fz' ρ' (((T1.trans T2).trans T3).trans T) (((X1.trans X2).trans X3).trans X) hv' ⟨G', Nat.le_trans R3.lo hle, R3.env, m, os', ls, l'.perm (p _).symm, o', Rep.fm_ext f X⟩

theorem load_raw {x : Str} {v : V} (hv : vars.lookup x = some v) {s : Shared} {fz ys : Lg} {ρ : List Addr} {g : Heap} {Q : Value → Shared → Prop} {E : Value → Shared → Prop}
    (R : Rep c e vars H fz ρ ys g s.heap s.toks) (k : ∀ v', VR fz ρ v' v → Q v' s) : wpAny c.M c.A (loadName e.env x) Q E s := by
  obtain ⟨m, os, xs, l, o, f⟩ := R.ex
  (refine e12 (f.vars x v hv) fun v' hat hr => ?_)
  have fin : Q v' s := k v' hr
  have hmem : ∀ {a : Addr} {o : Obj}, (a, o) ∈ xs ++ ys → s.heap.get? a = some o := fun hm => l.getM (by
    (refine Or.elim (List.mem_append.mp hm) (fun q => ?_) (fun q => ?_))
    · exact List.mem_append_left _ q
    · exact List.mem_append_right _ (List.mem_append_right _ q))
  (refine Or.elim hat (fun o233_ => ?_) (fun o234_ => ?_); rotate_left 1; try clear hat; (refine Or.elim o234_ (fun o70_ => ?_) (fun o71_ => ?_); rotate_left 1; try clear o234_; (refine e02 o71_ fun h1 q20_ => ?_; try clear o71_; obtain ⟨ca, o, h2, h3, h4⟩ := q20_); rotate_right 1; try clear o234_; (refine e02 o70_ fun h1 q21_ => ?_; try clear o70_; obtain ⟨o, mm, h2, h3, h4⟩ := q21_)); rotate_right 1; try clear hat; (refine e03 o233_ fun h1 h2 h3 => ?_; try clear o233_))
  · exact wpAny_loadName_local R.env.hk h1 (h2 ▸ l.F.ns) h3 fin
  · exact wpAny_loadName_local R.env.hk h1 (h3.ns (hmem h2)) h4 fin
  · (refine Or.elim h1 (fun h1 => ?_) (fun o235_ => ?_); rotate_left 1; try clear h1; (refine e02 o235_ fun h1 hn => ?_; try clear o235_); rotate_right 1)
    · exact wpAny_loadName_cell R.env.hk h1 h2 ⟨o, hmem h3, h4⟩ fin
    · exact wpAny_loadName_free R.env.hk h1 h2 ⟨o, hmem h3, h4⟩ fin hn
theorem TS1_aug {x : Str} {op : Operator} {px pos : Pos} {value : Expr} {v0 v1 z : V} (hv : vars.lookup x = some v0) (h1 : TE c e vars H (eval value e.env) v1 H) (h2 : PO c e vars H (inplaceOp op) v0 v1 z H1) (hx : TStore c e x) :
    TS1 c e vars H (.AugAssign (.Name x px) op value pos) .next (setv x z vars) H1 := fun s fz ys ρ g Q E R k => by
  refine wpAny_AugAssign_Name (load_raw hv R fun v' hv' => ?_)
  refine h1 _ _ _ _ _ _ _ R fun a hh1 tk1 g1 fz1 ρ1 T1 X1 va R1 => ?_
  refine h2 _ _ _ _ _ _ _ _ _ R1 (hv'.ext X1) va fun b hh2 tk2 g2 fz2 ρ2 T2 X2 vb R2 => ?_
  exact store hx R2 vb fun h' tk' R' => k .next h' tk' g2 fz2 ρ2 (T1.trans T2) (X1.trans X2) .next R'
theorem PO_iaddI {i j : Int} {r q : Tok → Prop} : PO c e vars H (inplaceOp .Add) (.intP i r) (.intP j q) (.int (i + j)) H := PO_int fun _ _ s _ _ k => iadd_int (k _ _ (.int _ _ trivial))
theorem TB_isor {l r l2 r2 : Expr} {p1 p2 p3 : Pos} {x y : Str} {rt qt : Tok → Prop} {whole : Sem Value} (nb : ∀ h, (top0.heap_1 c.w.params).In h → NoneBooked h) (h1 : TE c e vars H (eval l e.env) (.strP x rt) H) (h2 : TE c e vars H (eval r e.env) (.strP y qt) H) (h3 : TE c e vars H (eval l2 e.env) (.strP x rt) H) (h4 : TE c e vars H (eval r2 e.env) (.strP y qt) H)
    (ht : ∀ t u, rt t → qt u → t ≠ 0 ∧ u ≠ 0 ∧ t ≠ u) (hm : behindInMarks .Is r = false) (hm2 : behindInMarks .Eq r2 = false) :
    TB c e vars H (isTrue (.BoolOp .Or [.Compare l [.Is] [r] p1, .Compare l2 [.Eq] [r2] p2] p3) e.env whole) (x == y) H := fun s fz ys ρ g Q E R k => by
  refine isTrue_or (wpAny_isTrue_Compare1 (h1 _ _ _ _ _ _ _ R fun a hh1 tk1 g1 fz1 ρ1 T1 X1 v1 R1 => ?_) hm)
  refine h2 _ _ _ _ _ _ _ R1 fun b hh2 tk2 g2 fz2 ρ2 T2 X2 v2 R2 => ?_
  induction v1 using VR.strE with
  | k t ht1 =>
    induction v2 using VR.strE with
    | k u hu1 =>
      (refine e03 (ht t u ht1 hu1) fun a1 a2 a3 => ?_)
      have rest : wpAny c.M c.A (isTrue (.BoolOp .Or [.Compare l2 [.Eq] [r2] p2] p3) e.env whole) Q E { s with heap := hh2, toks := tk2 } := by
        refine isTrue_or (wpAny_isTrue_Compare1 (h3 _ _ _ _ _ _ _ R2 fun a hh3 tk3 g3 fz3 ρ3 T3 X3 v3 R3 => ?_) hm2)
        refine h4 _ _ _ _ _ _ _ R3 fun b hh4 tk4 g4 fz4 ρ4 T4 X4 v4 R4 => ?_
        refine PO_eqS _ _ _ _ _ _ _ _ _ R4 (v3.ext X4) v4 fun v hh5 tk5 g5 fz5 ρ5 T5 X5 v5 R5 => ?_
        cases v5
        refine wpAny_truthy_bool ?_
        cases hxy : (x == y) with
        | true => exact k _ hh5 tk5 g5 fz5 ρ5 ((((T1.trans T2).trans T3).trans T4).trans T5) ((((X1.trans X2).trans X3).trans X4).trans X5) hxy.symm R5
        | false => exact isTrue_or_nil (k _ hh5 tk5 g5 fz5 ρ5 ((((T1.trans T2).trans T3).trans T4).trans T5) ((((X1.trans X2).trans X3).trans X4).trans X5) hxy.symm R5)
      show wpAny _ _ (do return Value.bool (← isSame (.str x t) (.str y u))) _ _ _
      refine wpAny_bind ?_
      cases hxy : (x == y) with
      | true =>
        refine wpAny_isSame_str (by simp [a1, a2]) (nb _ R2.In) fun b => wpAny_pure (wpAny_truthy_bool ?_)
        cases b with
        | true => exact k _ hh2 tk2 g2 fz2 ρ2 (T1.trans T2) (X1.trans X2) hxy.symm R2
        | false => exact rest
      | false =>
        show wpAny _ _ (isSame.created (x == y) t u) _ _ _
        unfold isSame.created
        rw [hxy]
        refine wpAny_ite ?_
        rw [if_neg (by simp [a1, a2])]
        refine wpAny_ite ?_
        rw [if_neg (by simp [a3])]
        exact wpAny_pure (wpAny_pure (wpAny_truthy_bool rest))
end Mine
end

section
open PySem PySem.W PyProof.Rows PySem.Calls PyProof.Rows.LCg
set_option Elab.async false
set_option linter.all false
set_option maxRecDepth 100000
set_option maxHeartbeats 1000000
namespace Mine
variable {c : Amb} {e : Sc} {vars vars' vars'' : Vars} {H H1 H2 H3 : List MO}
theorem PC_hasattr {x : Str} {r q : Tok → Prop} : PC c e vars H (.builtin "hasattr") [.strP x r, .strP (Str.ofString "__getitem__") q] (.bool true) H := fun vs s fz ys ρ g Q E R hv k => by
  induction hv using VRs.consE with
  | k a b =>
    induction b using VRs.consE with
    | k b d =>
      induction d using VRs.nilE; induction a using VR.strE; induction b using VR.strE
      obtain ⟨hh, gg, dd, tt, oo⟩ := s
      exact hasattr_str fun o => k _ _ tt g fz ρ KtsTurn.refl Ext.refl (.bool true) (R.push o)
end Mine
end

section
open PySem PySem.W PyProof.Rows PySem.Calls PyProof.Rows.LCg
set_option Elab.async false
set_option linter.all false
set_option maxRecDepth 100000
set_option maxHeartbeats 1000000
namespace Mine
variable {c : Amb} {e : Sc} {vars vars' vars'' : Vars} {H H1 H2 H3 : List MO}
noncomputable abbrev Dt := PySem.W.Dat
mutual
noncomputable def V.D0 : V → Dt
  | .none => .none
  | .bool b => .bool b
  | .intP i _ => .int i
  | .strP s _ => .str s
  | .tup xs => .tuple (Vs.D0 xs)
  | .lst xs => .list (Vs.D0 xs)
  | .lstC xs => .list (xs.map .int)
  | .obj _ => .bytes #[]
  | .con _ => .bytes #[]
noncomputable def Vs.D0 : List V → List Dt
  | [] => []
  | x :: r => x.D0 :: Vs.D0 r
end
noncomputable def V.D (H : List MO) : V → Dt
  | .obj i => match H[i]? with
    | some (.list xs) => .list (Vs.D0 xs)
    | _ => .bytes #[]
  | v => v.D0
theorem coh_dat {fz : Lg} {t₀ : Nat} : ∀ xs : List Int, DatAll fz (xs.map fun v => Value.int v (t₀ + v.toNat)) (xs.map .int)
  | [] => .nil
  | v :: r => .cons (.int v _) (coh_dat r)
theorem VR.dat {fz : Lg} {ρ : List Addr} {v : Value} {x : V} (n : Nat) (h : VR fz ρ v x) (q : kqdOk n x.D0 = true) : DatIn fz v x.D0 :=
  VR.rec (motive_1 := fun v x _ => ∀ n, kqdOk n x.D0 = true → DatIn fz v x.D0) (motive_2 := fun vs xs _ => ∀ n, (∀ d ∈ Vs.D0 xs, kqdOk n d = true) → DatAll fz vs (Vs.D0 xs))
    (fun _ _ => .none) (fun b _ _ => .bool b) (fun i t _ _ _ _ => .int i t) (fun s t _ _ _ _ => .str s t)
    (fun m _ ih n q => by
      cases n with
      | zero => simp [V.D0, kqdOk] at q
      | succ n => unfold V.D0 at q ⊢; exact .tuple m (ih n (by simpa [kqdOk] using q)))
    (fun m _ ih n q => by
      cases n with
      | zero => simp [V.D0, kqdOk] at q
      | succ n => unfold V.D0 at q ⊢; exact .list m (ih n (by simpa [kqdOk] using q)))
    (fun m _ _ _ => by unfold V.D0; exact .list m (coh_dat _)) (fun _ n q => by cases n <;> simp [V.D0, kqdOk] at q) (fun _ n q => by cases n <;> simp [V.D0, kqdOk] at q)
    (fun _ _ => .nil) (fun _ _ p r n q => by unfold Vs.D0 at q ⊢; exact .cons (p n (q _ (.head _))) (r n fun d hd => q d (.tail _ hd))) h n q
theorem VRs.dat {fz : Lg} {ρ : List Addr} {vs : List Value} {xs : List V} (n : Nat) (h : VRs fz ρ vs xs) : (∀ d ∈ Vs.D0 xs, kqdOk n d = true) → DatAll fz vs (Vs.D0 xs) :=
  VRs.ind (P := fun vs xs => (∀ d ∈ Vs.D0 xs, kqdOk n d = true) → DatAll fz vs (Vs.D0 xs)) (fun _ => .nil) (fun a _ r q => by unfold Vs.D0 at q ⊢; exact .cons (a.dat n (q _ (.head _))) (r fun d hd => q d (.tail _ hd))) h
theorem Rep.reads {fz ys : Lg} {ρ : List Addr} {g h : Heap} {tk : Nat} (R : Rep c e vars H fz ρ ys g h tk) {v : Value} {x : V} (hv : VR fz ρ v x) (hk : kqdOk 8 (x.D H) = true) : ∃ as, Reads h v (kqdP (x.D H)) as := by
  obtain ⟨m, os, xs, l, o, f⟩ := R.ex
  have NF : News g c.L h fz := fun p hp => l.N p (List.mem_append_right _ hp)
  cases x with
  | obj i =>
    induction hv using VR.objE with
    | k ha =>
      simp only [V.D] at hk ⊢
      cases hH : H[i]? with
      | none => rw [hH] at hk; simp [kqdOk] at hk
      | some mo =>
        rw [hH] at hk
        cases mo with
        | list ys =>
          (refine e23 (R.get hH) fun a' ob h1 h2 h3 => ?_)
          rw [ha] at h1; (replace h1 := Option.some.inj h1; subst h1)
          cases h3 with
          | list hr =>
            have hk' : ∀ d ∈ Vs.D0 ys, kqdOk 7 d = true := by simpa [kqdOk] using hk
            (refine Exists.elim (kqd_all NF 7 (VRs.dat 7 hr hk') hk') fun as q => ?_)
            show ∃ as, Reads h _ (kqdP (.list (Vs.D0 ys))) as
            rw [kqdP]
            exact ⟨_, reads_list_at h2 rfl rfl (by simpa using q)⟩
        | _ => simp [kqdOk] at hk
  | _ => exact kqd_in NF 8 (VR.dat 8 hv hk) hk
theorem shaped_of {d : Dt} (h : kqdOk 8 d = true) : SeqAt.shaped (kqdP d) = true := by
  (refine e02 (kqd_lay 8 d h) fun a b => ?_)
  unfold SeqAt.shaped
  rw [a]; simp; lia
theorem PO_eqV {x y : V} {b : Bool} (h1 : kqdOk 8 (x.D H) = true) (h2 : kqdOk 8 (y.D H) = true) (hu : c.un + 64 < cLine) (hb : x.D H = y.D H ↔ b = true) : PO c e vars H (compareOp .Eq) x y (.bool b) H := fun a v s fz ys ρ g Q E R ha hv k => by
  (refine Exists.elim (R.reads ha h1) fun as ra => ?_)
  (refine Exists.elim (R.reads hv h2) fun bs rb => ?_)
  refine eq_dataH ra rb (shaped_of h1) (shaped_of h2) hu ?_
  have : PyData.eqv (kqdP (x.D H)) (kqdP (y.D H)) = b := by
    rw [Bool.eq_iff_iff, kqd_eqv 8 _ _ 8 h1 h2, hb]
  rw [this]
  exact k _ s.heap s.toks g fz ρ KtsTurn.refl Ext.refl (.bool _) R
theorem PO_neV {x y : V} {b : Bool} (h1 : kqdOk 8 (x.D H) = true) (h2 : kqdOk 8 (y.D H) = true) (hu : c.un + 64 < cLine) (hb : x.D H = y.D H ↔ b = false) : PO c e vars H (compareOp .NotEq) x y (.bool b) H := fun a v s fz ys ρ g Q E R ha hv k => by
  (refine Exists.elim (R.reads ha h1) fun as ra => ?_)
  (refine Exists.elim (R.reads hv h2) fun bs rb => ?_)
  refine ne_dataH ra rb (shaped_of h1) (shaped_of h2) hu ?_
  have : (!PyData.eqv (kqdP (x.D H)) (kqdP (y.D H))) = b := by
    cases b with
    | false => rw [(kqd_eqv 8 _ _ 8 h1 h2).mpr (hb.mpr rfl)]; rfl
    | true =>
      cases hh : PyData.eqv (kqdP (x.D H)) (kqdP (y.D H)) with
      | false => rfl
      | true => exact absurd (hb.mp ((kqd_eqv 8 _ _ 8 h1 h2).mp hh)) (by simp)
  rw [this]
  exact k _ s.heap s.toks g fz ρ KtsTurn.refl Ext.refl (.bool _) R
end Mine
end

section
open PySem PySem.W PyProof.Rows PySem.Calls PyProof.Rows.LCg
set_option Elab.async false
set_option linter.all false
set_option maxRecDepth 100000
set_option maxHeartbeats 1000000
namespace Mine
variable {c : Amb} {e : Sc} {vars vars' vars'' : Vars} {H H1 H2 H3 : List MO}
theorem Room.u {lv : Nat} (r : Room c lv) : c.un + 64 < cLine := by have := r.un; lia
theorem eqV_false {x y : Dt} (h : x ≠ y) : x = y ↔ false = true := ⟨fun q => absurd q h, fun q => by exact ft q⟩
theorem neV_true {x y : Dt} (h : x ≠ y) : x = y ↔ true = false := ⟨fun q => absurd q h, fun q => by exact tf q⟩
theorem eqV_true {x y : Dt} (h : x = y) : x = y ↔ true = true := ⟨fun _ => rfl, fun _ => h⟩
theorem neV_false {x y : Dt} (h : x = y) : x = y ↔ false = false := ⟨fun _ => rfl, fun _ => h⟩
end Mine
end

section
open PySem PySem.W PyProof.Rows PySem.Calls PyProof.Rows.LCg
set_option Elab.async false
set_option linter.all false
set_option maxRecDepth 100000
set_option maxHeartbeats 1000000
namespace Mine
variable {c : Amb} {e : Sc} {vars vars' vars'' : Vars} {H H1 H2 H3 : List MO}

namespace Led
variable {L : Addr} {g h h' : Heap} {m m' : Str → Option Value} {fz mu mu' : Lg} {a : Addr} {o o' : Obj}
theorem sublist (x : Led L g h m fz mu) (p : List.Sublist mu' mu) : Led L g h m fz mu' :=
  ⟨x.F, fun q hq => x.N q (by
    (refine Or.elim (List.mem_append.mp hq) (fun hq => ?_) (fun hq => ?_))
    · exact List.mem_append_left _ (p.subset hq)
    · exact List.mem_append_right _ hq), (p.map _).nodup x.nd, fun q hq hm => x.ap q hq ((p.map (·.1)).subset hm)⟩
theorem freeze (x : Led L g h m fz ((a, o) :: mu)) : Led L g h m ((a, o) :: fz) mu :=
  ⟨x.F, fun q hq => x.N q (by
    (refine Or.elim (List.mem_append.mp hq) (fun hq => ?_) (fun hq => ?_))
    · exact List.mem_append_left _ (.tail _ hq)
    · (refine Or.elim (List.mem_cons.mp hq) (fun o236_ => ?_) (fun hq => ?_); subst o236_)
      · exact List.mem_append_left _ (.head _)
      · exact List.mem_append_right _ hq), (List.nodup_cons.mp x.nd).2, fun q hq hm => by
    (refine Or.elim (List.mem_cons.mp hq) (fun o237_ => ?_) (fun hq => ?_); subst o237_)
    · exact (List.nodup_cons.mp x.nd).1 hm
    · exact x.ap q hq (.tail _ hm)⟩
theorem but (x : Led L g h m fz ((a, o) :: mu)) (hs : Heap.SameBut a h h') : Led L g h' m fz mu := by
  have za := x.N _ (List.mem_append_left _ (.head _))
  have hne : ∀ {p : Addr × Obj}, p ∈ mu ++ fz → p.1 ≠ a := fun {p} hm q => by
    (refine Or.elim (List.mem_append.mp hm) (fun z => ?_) (fun z => ?_))
    · exact (List.nodup_cons.mp x.nd).1 (List.mem_map.mpr ⟨p, z, q⟩)
    · exact x.ap p z (List.mem_map.mpr ⟨_, .head _, q.symm⟩)
  exact ⟨x.F.change hs za.2.1 za.2.2, fun p hp => ⟨(hs.2 _ (hne hp)).trans (x.N p (by
    (refine Or.elim (List.mem_append.mp hp) (fun z => ?_) (fun z => ?_))
    · exact List.mem_append_left _ (.tail _ z)
    · exact List.mem_append_right _ z)).1, (x.N p (by
    (refine Or.elim (List.mem_append.mp hp) (fun z => ?_) (fun z => ?_))
    · exact List.mem_append_left _ (.tail _ z)
    · exact List.mem_append_right _ z)).2⟩, (List.nodup_cons.mp x.nd).2, fun p hp hm => x.ap p hp (.tail _ hm)⟩
end Led
noncomputable abbrev cellO : Obj := { cls := .type "cell", data := .cell none }
noncomputable def cellObjs (n : Nat) : List (Str × NameKind) → Lg
  | [] => []
  | (_, k) :: r => if k == .cell then (n, cellO) :: cellObjs (n + 1) r else cellObjs n r
theorem Led.pushCells {L : Addr} {g : Heap} {m : Str → Option Value} {fz : Lg} : ∀ (names : List (Str × NameKind)) {h : Heap} {mu : Lg}, Led L g h m fz mu → Led L g (PySem.pushCells h names) m fz (cellObjs h.objs.size names ++ mu)
  | [], _, _, x => x
  | (nm, k) :: r, h, mu, x => by
    unfold PySem.pushCells cellObjs
    by_cases hk : (k == .cell) = true
    · rw [if_pos hk, if_pos hk]
      have := Led.pushCells r (x.allocM cellO rfl)
      rw [Heap.size_push] at this
      refine this.perm ?_
      show (cellObjs (h.objs.size + 1) r ++ (h.objs.size, cellO) :: mu).Perm ((h.objs.size, cellO) :: (cellObjs (h.objs.size + 1) r ++ mu))
      exact List.perm_middle
    · rw [if_neg hk, if_neg hk]
      exact Led.pushCells r x

section
variable {M : Model} {A : Around} {E : Value → Shared → Prop} {s : Shared}
theorem newCompEnv {scope : Scope} {globals : Addr} {closure : List (Str × Addr)} {qual : Str} {env : Env} {Q : Env → Shared → Prop}
    (hQ : Q (newEnv scope s.heap.objs.size globals (cellsFrom (s.heap.objs.size + 1) scope.names closure) qual none .none (some env) builtinsNs)
      { s with heap := PySem.pushCells (s.heap.push { cls := .type "dict", data := .dict #[] }) scope.names }) :
    wpAny M A (newFunctionEnv scope globals closure [] qual none .none (some env)) Q E s := by
  simp only [newFunctionEnv, Option.isSome_some, if_true]
  refine wpAny_bind (wpAny_alloc ?_)
  refine wpAny_bind (wpAny_layCells _ (fun name kind cells => by cases hkc : kind == NameKind.cell <;> simp [hkc]) _ _ _ _ ?_)
  rw [show ({ s with heap := s.heap.push { cls := .type "dict", data := .dict #[] } } : Shared).heap.objs.size = s.heap.objs.size + 1 from Heap.size_push ..]
  refine wpAny_bind (wpAny_pure ?_)
  exact wpAny_pure hQ
end
section
variable {prog : Program} {w : World} {A : Around} {R : Result → Shared → Prop} {env : Env}
theorem codeAny_comp1 {elt target iter : Expr} {ifs : List Expr} {scope : Scope} {pos : Pos} {it acc : Value} {s : Shared}
    (h : wpAny (model prog w) A (pyNext it) (fun r s₁ => match r with
      | none => R (.ok .next) s₁
      | some v => wpAny (model prog w) A (letOwnedTupleGo target it v) (fun _ s₁' => wpAny (model prog w) A (assign target env v) (fun _ s₂ =>
          wpAny (model prog w) A (forIn ifs true fun c r => if r = true then do let ok ← isTrue c env (eval c env); pure (ForInStep.yield ok) else pure (ForInStep.yield r)) (fun ok s₃ =>
            if ok = true then wpAny (model prog w) A (eval elt env) (fun x s₄ =>
              wpAny (model prog w) A (call (.builtin "list.append") [acc, x]) (fun _ s₅ => codeAny (model prog w) A (.compLoop (.ListComp elt [⟨target, iter, ifs, 0⟩] scope pos) 0 it acc env) R s₅) (notedBy (model prog w) A env fun e s' => R (.error e) s') s₄) (notedBy (model prog w) A env fun e s' => R (.error e) s') s₃
            else codeAny (model prog w) A (.compLoop (.ListComp elt [⟨target, iter, ifs, 0⟩] scope pos) 0 it acc env) R s₃) (notedBy (model prog w) A env fun e s' => R (.error e) s') s₂) (notedBy (model prog w) A env fun e s' => R (.error e) s') s₁')
          (notedBy (model prog w) A env fun e s' => R (.error e) s') s₁) (notedBy (model prog w) A env fun e s' => R (.error e) s') s) :
    codeAny (model prog w) A (.compLoop (.ListComp elt [⟨target, iter, ifs, 0⟩] scope pos) 0 it acc env) R s := by
  refine codeAny_of_tree ?_
  show wpAny _ A ((compTurn (.ListComp elt [⟨target, iter, ifs, 0⟩] scope pos) 0 it acc env).onRaise (fun x => do noteFrame x env; theTreesLotGoes x)) _ _ s
  refine wpAny_noted ?_
  rw [compTurn_list]
  refine wpAny_bind (wpAny_standAt (wpAny_bind (wpAny_mono h (fun r s₁ h₁ => ?_) fun _ _ h' => h')))
  cases r with
  | none => exact wpAny_pure h₁
  | some v =>
    refine wpAny_bind (wpAny_mono h₁ (fun _ s₁' h₁' => ?_) fun _ _ h' => h')
    refine wpAny_bind (wpAny_mono h₁' (fun _ s₂ h₂ => wpAny_bind (wpAny_mono h₂ (fun ok s₃ h₃ => ?_) fun _ _ h' => h')) fun _ _ h' => h')
    cases ok with
    | false =>
      simp only [Bool.false_eq_true, if_false] at h₃ ⊢
      exact wpAny_pure ⟨rfl, h₃⟩
    | true =>
      simp only [if_true] at h₃ ⊢
      exact wpAny_bind (wpAny_bind (wpAny_mono h₃ (fun x s₄ h₄ => wpAny_bind (wpAny_mono h₄ (fun _ s₅ h₅ => wpAny_pure (wpAny_pure ⟨rfl, h₅⟩)) fun _ _ h' => h')) fun _ _ h' => h'))
end

noncomputable def CTest (c : Amb) (e : Sc) (vars : Vars) (H : List MO) : List Expr → Bool → List MO → Prop
  | [], b, H' => b = true ∧ H' = H
  | [t], b, H' => TB c e vars H (isTrue t e.env (eval t e.env)) b H'
  | _, _, _ => False
inductive CmpR (c : Amb) (e : Sc) (target elt : Expr) (ifs : List Expr) (KH : List MO → Prop) : List V → Vars → List MO → List V → List MO → Prop
  | nil {vars : Vars} {H : List MO} : KH H → CmpR c e target elt ifs KH [] vars H [] H
  | keep {x y : V} {xs ys : List V} {vars vars1 : Vars} {H H1 H2 H' : List MO} : KH H → TAs c e H target x vars vars1 → CTest c e vars1 H ifs true H1 → TE c e vars1 H1 (eval elt e.env) y H2 → CmpR c e target elt ifs KH xs vars1 H2 ys H' → CmpR c e target elt ifs KH (x :: xs) vars H (y :: ys) H'
  | skip {x : V} {xs ys : List V} {vars vars1 : Vars} {H H1 H' : List MO} : KH H → TAs c e H target x vars vars1 → CTest c e vars1 H ifs false H1 → CmpR c e target elt ifs KH xs vars1 H1 ys H' → CmpR c e target elt ifs KH (x :: xs) vars H ys H'

theorem CTest.run {ifs : List Expr} {b : Bool} (h : CTest c e vars H ifs b H1) {s : Shared} {fz ys : Lg} {ρ : List Addr} {g : Heap} {Q : Bool → Shared → Prop} {E : Value → Shared → Prop} (R : Rep c e vars H fz ρ ys g s.heap s.toks)
    (k : ∀ (h' : Heap) (tk' : Nat) (g' : Heap) (fz' : Lg) (ρ' : List Addr), KtsTurn c.fs g g' → Ext fz fz' ρ ρ' → Rep c e vars H1 fz' ρ' ys g' h' tk' → Q b { s with heap := h', toks := tk' }) :
    wpAny c.M c.A (forIn ifs true fun t r => if r = true then do let ok ← isTrue t e.env (eval t e.env); pure (ForInStep.yield ok) else pure (ForInStep.yield r)) Q E s := by
  match ifs, h with
  | [], h =>
    (refine e02 h fun q20_ q21_ => ?_; try clear h; subst q20_; subst q21_)
    exact wpAny_tests_nil (k s.heap s.toks g fz ρ KtsTurn.refl Ext.refl R)
  | [t], h => exact wpAny_tests_one (h _ _ _ _ _ _ _ R fun v h' tk' g' fz' ρ' T X p R' => by subst p; exact k h' tk' g' fz' ρ' T X R')
theorem Plain.lst {vs : List Value} {n : Nat} : Plain (lstO vs n) := ⟨(fun mm q => by (refine e22 q fun es ep d _ => ?_; try clear q); cases d), (fun v q => by cases q)⟩

theorem CmpR.run {target elt iter : Expr} {ifs : List Expr} {scope : Scope} {pos : Pos} {KH : List MO → Prop} {H' : List MO} {fz₀ : Lg} {ρ₀ : List Addr} {ws xs ys : List V} {St : Nat → Addr → Lg → Prop} (W : Walking c target fz₀ ρ₀ xs KH St)
    (h : CmpR c e target elt ifs KH ws vars H ys H') : ∀ (i : Nat), ws = xs.drop i → ∀ (I D : Addr) (objs : Lg) (s : Shared) (fz zs : Lg) (ρ : List Addr) (g : Heap) (vals : List Value) (n : Nat) (dn : List V) (R : Result → Shared → Prop),
    St i I objs → Ext fz₀ fz ρ₀ ρ → VRs fz ρ vals dn → vals.length + ws.length ≤ sizeLine → Rep c e vars H fz ρ (objs ++ ((D, lstO vals n) :: zs)) g s.heap s.toks →
    (∀ (h' : Heap) (tk' : Nat) (g' : Heap) (fz' : Lg) (ρ' : List Addr) (vals' : List Value) (n' : Nat) (vars' : Vars), KtsTurn c.fs g g' → Ext fz fz' ρ ρ' → VRs fz' ρ' vals' (dn ++ ys) → Rep c e vars' H' fz' ρ' ((D, lstO vals' n') :: zs) g' h' tk' → R (.ok .next) { s with heap := h', toks := tk' }) →
    codeAny c.M c.A (.compLoop (.ListComp elt [⟨target, iter, ifs, 0⟩] scope pos) 0 (.ref I) (.ref D) e.env) R s := by
  induction h with
  | nil hK =>
    intro i hi I D objs s fz zs ρ g vals n dn R hst X hv hsz Rp k
    refine codeAny_comp1 (W.over i (drop_end hi) e _ _ I objs fz ρ s _ g _ _ hK X hst Rp fun h' R1 => ?_)
    exact k h' s.toks g fz ρ vals n _ KtsTurn.refl Ext.refl (by rw [List.append_nil]; exact hv) R1
  | keep hK h1 h2 h3 _ ih =>
    intro i hi I D objs s fz zs ρ g vals n dn R hst X hv hsz Rp k
    (refine e02 (drop_nx hi) fun hx hi' => ?_)
    refine codeAny_comp1 (wpAny_mono (W.item i _ hx e _ _ I objs fz ρ s _ g (fun v s₂ => wpAny c.M c.A (assign target e.env v) _ _ s₂) _ hK X hst Rp fun v h' tk' fz1 objs' X1 hv1 hst' R1 => ?_) (fun r s₁ q => by (revert q; refine fun q23_ => e12 q23_ fun v q22_ q => ?_; try clear q23_; subst q22_); exact q) fun _ _ q => q)
    refine h1 v _ _ _ _ _ _ _ R1 hv1 fun h2' tk2 R2 => ?_
    refine h2.run R2 fun h3' tk3 g3 fz3 ρ3 T3 X3 R3 => ?_
    simp only [if_true]
    refine h3 _ _ _ _ _ _ _ R3 fun y h4' tk4 g4 fz4 ρ4 T4 X4 vy R4 => ?_
    have pm : (objs' ++ ((D, lstO vals n) :: zs)).Perm ((D, lstO vals n) :: (objs' ++ zs)) := List.perm_middle
    have R5 := R4.permYs pm
    refine append_at (its := vals.toArray) (n := n) (hsz := by rw [List.size_toArray]; simp at hsz; lia) (Rep.getY R5) fun h5 hs5 hD5 => ?_
    have e5 : ({ cls := .type "list", data := .seq (vals.toArray.push y) (n + 1) } : Obj) = lstO (vals ++ [y]) (n + 1) := by rw [List.push_toArray]
    rw [e5] at hD5
    have R6 := (Rep.updY R5 hs5 hD5 Plain.lst).permYs (List.perm_middle (a := (D, lstO (vals ++ [y]) (n + 1))) (l₁ := objs') (l₂ := zs)).symm
    have hv6 : VRs fz4 ρ4 (vals ++ [y]) (dn ++ [_]) := ((((hv.ext X1).ext X3).ext X4)).append (.cons vy .nil)
    refine ih (i + 1) hi' I D objs' _ _ _ _ _ _ _ _ _ hst' (((X.trans X1).trans X3).trans X4) hv6 (by simp at hsz ⊢; lia) R6 fun h' tk' g' fz' ρ' vals' n' vars' T Xx p R' => ?_
    exact k h' tk' g' fz' ρ' vals' n' vars' ((T3.trans T4).trans T) (((X1.trans X3).trans X4).trans Xx) (by rw [List.append_assoc] at p; exact p) R'
  | skip hK h1 h2 _ ih =>
    intro i hi I D objs s fz zs ρ g vals n dn R hst X hv hsz Rp k
    (refine e02 (drop_nx hi) fun hx hi' => ?_)
    refine codeAny_comp1 (wpAny_mono (W.item i _ hx e _ _ I objs fz ρ s _ g (fun v s₂ => wpAny c.M c.A (assign target e.env v) _ _ s₂) _ hK X hst Rp fun v h' tk' fz1 objs' X1 hv1 hst' R1 => ?_) (fun r s₁ q => by (revert q; refine fun q25_ => e12 q25_ fun v q24_ q => ?_; try clear q25_; subst q24_); exact q) fun _ _ q => q)
    refine h1 v _ _ _ _ _ _ _ R1 hv1 fun h2' tk2 R2 => ?_
    refine h2.run R2 fun h3' tk3 g3 fz3 ρ3 T3 X3 R3 => ?_
    simp only [Bool.false_eq_true, if_false]
    refine ih (i + 1) hi' I D objs' _ _ _ _ _ _ _ _ _ hst' ((X.trans X1).trans X3) ((hv.ext X1).ext X3) (by simp at hsz ⊢; lia) R3 fun h' tk' g' fz' ρ' vals' n' vars' T Xx p R' => ?_
    exact k h' tk' g' fz' ρ' vals' n' vars' (T3.trans T) ((X1.trans X3).trans Xx) p R'

noncomputable def CapOk (env env' : Env) (vars : Vars) (vars₀ : Vars) : Prop := ∀ y v, vars₀.lookup y = some v → vars.lookup y = some v ∧ env.kindOf y = some .cell ∧ env'.kindOf y = some .cell ∧ env'.cells.lookup y = env.cells.lookup y
noncomputable abbrev compE (scope : Scope) (cl : List (Str × Addr)) (C : Addr) (env : Env) : Env := compEnvC scope (cellsFrom (C + 1) scope.names cl) C env
noncomputable def OwnOk (env : Env) (cells : Lg) (own : List Str) : Prop := (∀ x ∈ own, env.kindOf x = some .cell ∧ ∃ ca, env.cells.lookup x = some ca ∧ (ca, cellO) ∈ cells) ∧ ∀ x ∈ own, ∀ y, env.cells.lookup y = env.cells.lookup x → y = x
theorem OwnOk.nil {env : Env} {cells : Lg} : OwnOk env cells [] := ⟨(fun x hx => absurd hx List.not_mem_nil), fun x hx => absurd hx List.not_mem_nil⟩
theorem Fm.dropPlain {m : Str → Option Value} {xs ys fz : Lg} {ρ : List Addr} : ∀ {objs : Lg}, (∀ p ∈ objs, Plain p.2) → Fm c e m xs (objs ++ ys) fz ρ vars → Fm c e m xs ys fz ρ vars
  | [], _, f => f
  | (a, o) :: r, hp, f => Fm.dropPlain (fun p hm => hp p (.tail _ hm)) (Rep.varY f (hp (a, o) (.head _)))

theorem perm_sw {α : Type} (a b d : List α) : (a ++ (b ++ d)).Perm (b ++ (a ++ d)) := by
  rw [← List.append_assoc, ← List.append_assoc]; exact List.perm_append_comm.append_right _
theorem perm_mid {α : Type} (x : α) (a b : List α) : (x :: (a ++ b)).Perm (a ++ (x :: b)) := List.perm_middle.symm
theorem Gr.setfm {g : Heap} {fm : Option (Str → Option Value)} (x : Gr c g) : Gr { c with fm := fm } g := ⟨⟨x.ok.XB, x.ok.TB, x.ok.hk, x.ok.n1, x.ok.d1, x.ok.d3⟩, x.B, x.D⟩
theorem Gr.unfm {g : Heap} {fm : Option (Str → Option Value)} (x : Gr { c with fm := fm } g) : Gr c g := ⟨⟨x.ok.XB, x.ok.TB, x.ok.hk, x.ok.n1, x.ok.d1, x.ok.d3⟩, x.B, x.D⟩
theorem Rep.dropC {C : Addr} {oC : Obj} {mm : Str → Option Value} {fz ys : Lg} {ρ : List Addr} {g h h' : Heap} {tk : Nat} (R : Rep c e vars H fz ρ ((C, oC) :: ys) g h tk) (hn : NsObj oC mm) (hs : Heap.SameBut C h h') : Rep c e vars H fz ρ ys g h' tk := by
  obtain ⟨m, os, ls, l, o, f⟩ := R.ex
  have pm : (ls ++ (ρ.zip os ++ ((C, oC) :: ys))).Perm ((C, oC) :: (ls ++ (ρ.zip os ++ ys))) := ((perm_mid _ _ _).trans (List.Perm.append_left _ (perm_mid _ _ _))).symm
  have l1 := l.perm pm
  have l2 := l1.but hs
  have hCL : C ≠ c.L := (l1.N _ (List.mem_append_left _ (.head _))).2.1
  have hCls : ∀ p ∈ ls, p.1 ≠ C := fun p hp q => (List.nodup_cons.mp l1.nd).1 (List.mem_map.mpr ⟨p, List.mem_append_left _ hp, q⟩)
  have hloc : e.env.locals ≠ C := by
    (refine Or.elim (f.loc) (fun q => ?_) (fun o238_ => ?_); rotate_left 1; (refine e22 o238_ fun ob m2 q _ => ?_; try clear o238_); rotate_right 1)
    · rw [q]; exact fun z => hCL z.symm
    · exact hCls _ q
  have hd : ∀ v, oC.data ≠ .cell v := fun v q => by (refine e22 hn fun es ep d _ => ?_; try clear hn); rw [q] at d; cases d
  refine ⟨R.gr, R.lo, R.env, m, os, ls, l2, o, ⟨fun x v q => ?_, f.cells, f.inj, f.loc, f.fr⟩⟩
  (refine e12 (f.vars x v q) fun v' h1 b => ?_)
  have key : ∀ p ∈ ls ++ ((C, oC) :: ys), p ≠ (C, oC) → p ∈ ls ++ ys := fun p hp hne => by
    (refine Or.elim (List.mem_append.mp hp) (fun z => ?_) (fun z => ?_))
    · exact List.mem_append_left _ z
    · (refine Or.elim (List.mem_cons.mp z) (fun o239_ => ?_) (fun z => ?_); subst o239_)
      · exact absurd rfl hne
      · exact List.mem_append_right _ z
  refine ⟨v', ?_, b⟩
  (refine Or.elim h1 (fun h1 => ?_) (fun o240_ => ?_); rotate_left 1; try clear h1; (refine Or.elim o240_ (fun o72_ => ?_) (fun o73_ => ?_); rotate_left 1; try clear o240_; (refine e02 o73_ fun a1 q22_ => ?_; try clear o73_; obtain ⟨ca, oo, a2, a3, a4⟩ := q22_); rotate_right 1; try clear o240_; (refine e02 o72_ fun a1 q23_ => ?_; try clear o72_; obtain ⟨oo, m2, a2, a3, a4⟩ := q23_)); rotate_right 1)
  · exact .inl h1
  · exact .inr (.inl ⟨a1, oo, m2, key _ a2 (fun q => hloc (congrArg Prod.fst q)), a3, a4⟩)
  · exact .inr (.inr ⟨a1, ca, oo, a2, key _ a3 (fun q => hd _ ((congrArg (fun p : Addr × Obj => p.2.data) q) ▸ a4)), a4⟩)
theorem comp_gen {target elt iter : Expr} {ifs : List Expr} {scope : Scope} {pos : Pos} {xs ys : List V} {KH : List MO → Prop} {cl : List (Str × Addr)} {own : List Str} {vars₀ : Vars} {use : Option (Value → Sem Unit)}
    (h1 : ItR c e vars H iter target xs KH H1) (hclos : closureFor scope e.env = pure cl) (hkind : scope.kind = .function) (hnames : ∀ x ∈ scope.names, x.2 = .local → scope.names.lookup x.1 = some .local)
    (hs : ∀ x, foldedSetIterable iter e.env x = pure x) (hcap : ∀ C, CapOk e.env (compE scope cl C e.env) vars vars₀)
    (hown : ∀ C, (∀ y v ca, vars₀.lookup y = some v → e.env.cells.lookup y = some ca → ca < C) → OwnOk (compE scope cl C e.env) (cellObjs (C + 1) scope.names) own) (hsz : xs.length ≤ sizeLine)
    (h2 : ∀ C m, CmpR { c with fm := some m } ⟨compE scope cl C e.env, own⟩ target elt ifs KH xs vars₀ H1 ys H2)
    {s : Shared} {fz zs : Lg} {ρ : List Addr} {g : Heap} {Q : Value → Shared → Prop} {E : Value → Shared → Prop} (R : Rep c e vars H fz ρ zs g s.heap s.toks)
    (k : ∀ (D C : Addr) (h' : Heap) (tk' : Nat) (g' : Heap) (fz' : Lg) (ρ' : List Addr) (mm : Str → Option Value) (oC : Obj), KtsTurn c.fs g g' → Ext fz fz' ρ ρ' → VR fz' ρ' (.ref D) (.lst ys) → NsObj oC mm → Rep c e vars H2 fz' ρ' ((C, oC) :: zs) g' h' tk' → compPost c.M c.A E use Q (.ref D) C (.ok .next) { s with heap := h', toks := tk' }) :
    wpAny c.M c.A (comprehension (.ListComp elt [⟨target, iter, ifs, 0⟩] scope pos) scope e.env (firstIterPos [⟨target, iter, ifs, 0⟩] pos) (newList []) false (eval iter e.env) use) Q E s := by
  refine wpAny_comprehension_free (use := use) rfl hs hclos hkind hnames ?_
  refine h1 _ _ _ _ _ _ _ R fun fz1 ρ1 g1 St I objs hh1 tk1 T1 X1 W hst R1 => ?_
  obtain ⟨m, os, ls, l, o, f⟩ := R1.ex
  have f0 := f.dropPlain ((W c.fm).stop _ _ _ hst)
  refine wpAny_newObj_type ?_
  refine newCompEnv ?_
  dsimp only
  generalize hHD : hh1.push { cls := .type "list", data := .seq ([] : List Value).toArray } = HD
  have hC : HD.objs.size = hh1.objs.size + 1 := by rw [← hHD, Heap.size_push]
  have l1 : Led c.L g1 HD m fz1 ((hh1.objs.size, lstO [] 0) :: (ls ++ (ρ1.zip os ++ (objs ++ zs)))) := hHD ▸ l.allocM (lstO [] 0) rfl
  have l2 := l1.allocM { cls := .type "dict", data := .dict #[] } rfl
  have l3 := Led.pushCells scope.names l2
  rw [Heap.size_push] at l3
  generalize hHC : PySem.pushCells (HD.push { cls := .type "dict", data := .dict #[] }) scope.names = HC at l3 ⊢
  have hold : ∀ b ob, hh1.get? b = some ob → b < hh1.objs.size := fun b ob q => Heap.lt_size q
  let oC : Obj := { cls := .type "dict", data := .dict #[] }
  have hoC : NsObj oC (fun _ => none) := ⟨#[], 0, rfl, (fun e he => by simp at he), fun _ => rfl⟩
  let c' : Amb := { c with fm := some m }
  let e' : Sc := ⟨compE scope cl HD.objs.size e.env, own⟩
  have hLs : c.L < hh1.objs.size := l.F.ns.lt
  have hmem : ∀ {a : Addr} {ob : Obj}, (a, ob) ∈ ls ++ zs → hh1.get? a = some ob := fun {a ob} hm => l.getM (by
    (refine Or.elim (List.mem_append.mp hm) (fun q => ?_) (fun q => ?_))
    · exact List.mem_append_left _ q
    · exact List.mem_append_right _ (List.mem_append_right _ (List.mem_append_right _ q)))
  have hcapA : ∀ y v, vars₀.lookup y = some v → ∃ v' ca ob, e.env.cells.lookup y = some ca ∧ (ca, ob) ∈ ls ++ zs ∧ ob.data = .cell (some v') ∧ VR fz1 ρ1 v' v := fun y v q => by
    (refine e04 (hcap HD.objs.size y v q) fun a1 a2 a3 a4 => ?_)
    (refine e12 (f0.vars y v a1) fun v' hat hr => ?_)
    (refine Or.elim hat (fun o241_ => ?_) (fun o242_ => ?_); rotate_left 1; try clear hat; (refine Or.elim o242_ (fun o74_ => ?_) (fun o75_ => ?_); rotate_left 1; try clear o242_; (refine e02 o75_ fun b1 q24_ => ?_; try clear o75_; obtain ⟨ca, ob, b2, b3, b4⟩ := q24_); rotate_right 1; try clear o242_; (refine e02 o74_ fun b1 _ => ?_; try clear o74_)); rotate_right 1; try clear hat; (refine e02 o241_ fun b1 _ => ?_; try clear o241_))
    · rw [a2] at b1; (replace b1 := Option.some.inj b1; cases b1)
    · rw [a2] at b1; (replace b1 := Option.some.inj b1; cases b1)
    · exact ⟨v', ca, ob, b2, b3, b4, hr⟩
  (refine e02 (hown HD.objs.size fun y v ca q1 q2 => by
    (refine e33 (hcapA y v q1) fun v' ca' ob b1 b2 _ => ?_)
    rw [q2] at b1; (replace b1 := Option.some.inj b1; subst b1)
    exact Nat.lt_trans (hold _ _ (hmem b2)) (by rw [hC]; exact Nat.lt_succ_self _)) fun ow1 ow2 => ?_)
  have l4 : Led c.L g1 HC m fz1 (((HD.objs.size, oC) :: cellObjs (HD.objs.size + 1) scope.names) ++ (ρ1.zip os ++ (objs ++ ((hh1.objs.size, lstO [] 0) :: (ls ++ zs))))) := by
    refine l3.perm ?_
    refine (List.perm_middle (a := (HD.objs.size, oC)) (l₁ := cellObjs (HD.objs.size + 1) scope.names)).trans ?_
    refine List.Perm.cons _ (List.Perm.append_left _ ?_)
    have q1 : (ls ++ (ρ1.zip os ++ (objs ++ zs))).Perm (ρ1.zip os ++ (objs ++ (ls ++ zs))) := (perm_sw _ _ _).trans (List.Perm.append_left _ (perm_sw _ _ _))
    exact (q1.cons _).trans ((perm_mid _ _ _).trans (List.Perm.append_left _ (perm_mid _ _ _)))
  have R2 : Rep c' e' vars₀ H1 fz1 ρ1 (objs ++ ((hh1.objs.size, lstO [] 0) :: (ls ++ zs))) g1 HC tk1 := by
    refine ⟨R1.gr.setfm, R1.lo, ⟨hkind, R1.env.hg, R1.env.hb⟩, m, os, _, l4, o, ⟨fun y v q => ?_, fun y hy => ?_, ow2, .inr ⟨oC, _, List.Mem.head _, hoC⟩, fun m₀ q => ⟨(Option.some.inj q), fun q2 => ?_⟩⟩⟩
    · (refine e34 (hcapA y v q) fun v' ca ob b1 b2 b3 hr => ?_)
      (refine e04 (hcap HD.objs.size y v q) fun a1 a2 a3 a4 => ?_)
      refine ⟨v', .inr (.inr ⟨.inl a3, ca, ob, a4.trans b1, ?_, b3⟩), hr⟩
      exact List.mem_append_right _ (List.mem_append_right _ (.tail _ b2))
    · (refine e02 (ow1 y hy) fun b1 q25_ => ?_; obtain ⟨ca, b2, b3⟩ := q25_)
      exact ⟨b1, ca, cellO, none, b2, .tail _ b3, rfl⟩
    · have q3 : HD.objs.size = c.L := q2
      rw [← q3, hC] at hLs
      exact Nat.not_succ_lt_self hLs
  have hh0 : ∀ (Rr : Result → Shared → Prop), codeAny c.M c.A (.compLoop (.ListComp elt [⟨target, iter, ifs, 0⟩] scope pos) 0 (.ref I) (.ref hh1.objs.size) (compE scope cl HD.objs.size e.env)) Rr { s with heap := HC, toks := tk1 } → 
      codeAny c.M c.A (.compStart (.ListComp elt [⟨target, iter, ifs, 0⟩] scope pos) 0 (.ref I) (.ref hh1.objs.size) (compE scope cl HD.objs.size e.env)) Rr { s with heap := HC, toks := tk1 } := fun Rr q =>
    codeAny_compStart_list q ((W (some m)).self 0 e' _ _ I objs fz1 ρ1 { s with heap := HC, toks := tk1 } _ g1 _ _ hst R2 q)
  refine hh0 _ ?_
  refine (h2 HD.objs.size m).run (W (some m)) 0 rfl I hh1.objs.size objs _ fz1 (ls ++ zs) ρ1 g1 [] 0 [] _ hst Ext.refl .nil (by simpa using hsz) R2 fun h' tk' g' fz' ρ' vals' n' vars' T Xx hvs R3 => ?_
  obtain ⟨m3, os3, ls3, l5, o3, f3⟩ := R3.ex
  (refine e02 (f3.fr m rfl) fun em eL => ?_)
  subst em
  (refine e22 (f3.loc.resolve_left eL) fun oC3 mm3 hC3 hns3 => ?_)
  refine k hh1.objs.size HD.objs.size h' tk' g' ((hh1.objs.size, lstO vals' n') :: fz') ρ' mm3 oC3 (T1.trans T) (X1.trans (Xx.trans Ext.cons)) (.lst (.head _) (hvs.ext Ext.cons)) hns3 ?_
  have s1 : List.Sublist ([(HD.objs.size, oC3)] ++ (ρ'.zip os3 ++ ((hh1.objs.size, lstO vals' n') :: (ls ++ zs)))) (ls3 ++ (ρ'.zip os3 ++ ((hh1.objs.size, lstO vals' n') :: (ls ++ zs)))) :=
    List.Sublist.append (List.singleton_sublist.mpr hC3) (List.Sublist.refl _)
  have l6 := l5.sublist s1
  have p1 : ([(HD.objs.size, oC3)] ++ (ρ'.zip os3 ++ ((hh1.objs.size, lstO vals' n') :: (ls ++ zs)))).Perm ((hh1.objs.size, lstO vals' n') :: (ls ++ (ρ'.zip os3 ++ ((HD.objs.size, oC3) :: zs)))) := by
    have a1 : (ρ'.zip os3 ++ ((hh1.objs.size, lstO vals' n') :: (ls ++ zs))).Perm ((hh1.objs.size, lstO vals' n') :: (ls ++ (ρ'.zip os3 ++ zs))) := by
      exact (perm_mid _ _ _).symm.trans (List.Perm.cons _ (perm_sw _ _ _))
    refine (a1.cons (HD.objs.size, oC3)).trans ((List.Perm.swap _ _ _).trans (List.Perm.cons _ ?_))
    have a2 : (ls ++ (ρ'.zip os3 ++ ((HD.objs.size, oC3) :: zs))).Perm ((HD.objs.size, oC3) :: (ls ++ (ρ'.zip os3 ++ zs))) := ((perm_mid _ _ _).trans (List.Perm.append_left _ (perm_mid _ _ _))).symm
    exact a2.symm
  have l7 := (l6.perm p1).freeze
  refine ⟨R3.gr.unfm, R3.lo, R1.env, _, os3, ls, l7, o3.ext Ext.cons, Rep.addY (Rep.fm_ext f0 (Xx.trans Ext.cons))⟩

theorem TE_comp {target elt iter : Expr} {ifs : List Expr} {scope : Scope} {pos : Pos} {xs ys : List V} {KH : List MO → Prop} {cl : List (Str × Addr)} {own : List Str} (vars₀ : Vars)
    (h1 : ItR c e vars H iter target xs KH H1) (hclos : closureFor scope e.env = pure cl) (hkind : scope.kind = .function) (hnames : ∀ x ∈ scope.names, x.2 = .local → scope.names.lookup x.1 = some .local)
    (hs : ∀ x, foldedSetIterable iter e.env x = pure x) (hcap : ∀ C, CapOk e.env (compE scope cl C e.env) vars vars₀)
    (hown : ∀ C, (∀ y v ca, vars₀.lookup y = some v → e.env.cells.lookup y = some ca → ca < C) → OwnOk (compE scope cl C e.env) (cellObjs (C + 1) scope.names) own) (hsz : xs.length ≤ sizeLine)
    (h2 : ∀ C m, CmpR { c with fm := some m } ⟨compE scope cl C e.env, own⟩ target elt ifs KH xs vars₀ H1 ys H2) :
    TE c e vars H (eval (.ListComp elt [⟨target, iter, ifs, 0⟩] scope pos) e.env) (.lst ys) H2 := fun s fz zs ρ g Q E R k => by
  rw [eval_ListComp]
  refine comp_gen h1 hclos hkind hnames hs hcap hown hsz h2 R fun D C h' tk' g' fz' ρ' mm oC T X hv hn R' => ?_
  refine ⟨mm, hn.ns (Rep.getY R'), fun h'' hs'' => ?_⟩
  exact k _ h'' tk' g' fz' ρ' T X hv (R'.dropC hn hs'')
theorem TS1_acomp {target elt iter : Expr} {ifs : List Expr} {scope : Scope} {pos py spos : Pos} {x : Str} {xs ys : List V} {KH : List MO → Prop} {cl : List (Str × Addr)} {own : List Str} (vars₀ : Vars)
    (hx : TStore c e x) (hsw : swapsWith (.ListComp elt [⟨target, iter, ifs, 0⟩] scope pos) (some (.Name x py)) spos.line e.env = pure true)
    (h1 : ItR c e vars H iter target xs KH H1) (hclos : closureFor scope e.env = pure cl) (hkind : scope.kind = .function) (hnames : ∀ x ∈ scope.names, x.2 = .local → scope.names.lookup x.1 = some .local)
    (hs : ∀ x, foldedSetIterable iter e.env x = pure x) (hcap : ∀ C, CapOk e.env (compE scope cl C e.env) vars vars₀)
    (hown : ∀ C, (∀ y v ca, vars₀.lookup y = some v → e.env.cells.lookup y = some ca → ca < C) → OwnOk (compE scope cl C e.env) (cellObjs (C + 1) scope.names) own) (hsz : xs.length ≤ sizeLine)
    (h2 : ∀ C m, CmpR { c with fm := some m } ⟨compE scope cl C e.env, own⟩ target elt ifs KH xs vars₀ H1 ys H2) :
    TS1 c e vars H (.Assign [.Name x py] (.ListComp elt [⟨target, iter, ifs, 0⟩] scope pos) spos) .next (setv x (.lst ys) vars) H2 := fun s fz zs ρ g Q E R k => by
  rw [exec_Assign_Name_used _ _ _ _ hsw]
  refine wpAny_bind (wpAny_standAt (wpAny_bind ?_))
  show wpAny _ _ (do let _ ← comprehension (.ListComp elt [⟨target, iter, ifs, 0⟩] scope pos) scope e.env (firstIterPos [⟨target, iter, ifs, 0⟩] pos) (newList []) false (eval iter e.env) (some (assign (.Name x py) e.env))) _ _ s
  refine wpAny_bind (wpAny_mono (comp_gen (Q := fun _ s' => Q .next s') (E := E) h1 hclos hkind hnames hs hcap hown hsz h2 R fun D C h' tk' g' fz' ρ' mm oC T X hv hn R' => ?_) (fun _ s' hq => wpAny_pure (wpAny_pure hq)) fun _ _ e => e)
  show wpAny _ _ (assign (.Name x py) e.env (.ref D)) _ _ _
  refine wpAny_assign_Name (store hx R' hv fun h3 tk3 R3 => ?_)
  refine ⟨mm, hn.ns (Rep.getY R3), fun h'' hs'' => ?_⟩
  exact k .next h'' tk3 g' fz' ρ' T X .next (R3.dropC hn hs'')
end Mine
end

section
open PySem PySem.W PyProof.Rows PySem.Calls PyProof.Rows.LCg
set_option Elab.async false
set_option linter.all false
set_option maxRecDepth 100000
set_option maxHeartbeats 1000000
namespace Mine
variable {c : Amb} {e : Sc} {vars vars' vars'' : Vars} {H H1 H2 H3 : List MO}

noncomputable def cellNames : List (Str × NameKind) → List Str
  | [] => []
  | (n, k) :: r => if k == .cell then n :: cellNames r else cellNames r
theorem cf_lookup : ∀ (names : List (Str × NameKind)) (n : Nat) (acc : List (Str × Addr)) (y : Str),
    (y ∈ cellNames names ∧ ∃ a, (cellsFrom n names acc).lookup y = some a ∧ n ≤ a ∧ (a, cellO) ∈ cellObjs n names) ∨ (y ∉ cellNames names ∧ (cellsFrom n names acc).lookup y = acc.lookup y)
  | [], _, _, y => .inr ⟨List.not_mem_nil, rfl⟩
  | (nm, k) :: r, n, acc, y => by
    unfold cellNames cellsFrom cellObjs
    by_cases hk : (k == .cell) = true
    · rw [if_pos hk, if_pos hk, if_pos hk]
      (refine Or.elim (cf_lookup r (n + 1) ((nm, n) :: acc) y) (fun o243_ => ?_) (fun o244_ => ?_); rotate_left 1; (refine e02 o244_ fun h1 h2 => ?_; try clear o244_); rotate_right 1; (refine e02 o243_ fun h1 q26_ => ?_; try clear o243_; obtain ⟨a, h2, h3, h4⟩ := q26_))
      · exact .inl ⟨.tail _ h1, a, h2, by lia, .tail _ h4⟩
      · by_cases hy : y = nm
        · subst hy
          exact .inl ⟨.head _, n, by rw [h2]; simp [List.lookup_cons], Nat.le_refl _, .head _⟩
        · refine .inr ⟨fun q => ?_, ?_⟩
          · (refine Or.elim (List.mem_cons.mp q) (fun q => ?_) (fun q => ?_))
            · exact hy q
            · exact h1 q
          · have : (y == nm) = false := by simpa using hy
            rw [h2, List.lookup_cons, this]
    · rw [if_neg hk, if_neg hk, if_neg hk]
      exact cf_lookup r n acc y
theorem cf_inj : ∀ (names : List (Str × NameKind)) (n : Nat) (acc : List (Str × Addr)), (∀ y a, acc.lookup y = some a → a < n) → ∀ x ∈ cellNames names, ∀ y, (cellsFrom n names acc).lookup y = (cellsFrom n names acc).lookup x → y = x
  | [], _, _, _, x, hx, _, _ => absurd hx List.not_mem_nil
  | (nm, k) :: r, n, acc, hacc, x, hx, y, h => by
    unfold cellNames at hx
    unfold cellsFrom at h
    by_cases hk : (k == .cell) = true
    · rw [if_pos hk] at hx h
      have hacc' : ∀ y a, ((nm, n) :: acc).lookup y = some a → a < n + 1 := fun y a q => by
        rw [List.lookup_cons] at q
        split at q
        · (replace q := Option.some.inj q; subst q); exact Nat.lt_succ_self _
        · exact Nat.lt_succ_of_lt (hacc y a q)
      by_cases hxr : x ∈ cellNames r
      · exact cf_inj r (n + 1) _ hacc' x hxr y h
      · have hxn : x = nm := by
          (refine Or.elim (List.mem_cons.mp hx) (fun q => ?_) (fun q => ?_))
          · exact q
          · exact absurd q hxr
        subst hxn
        (refine Or.elim (cf_lookup r (n + 1) ((x, n) :: acc) x) (fun o245_ => ?_) (fun o246_ => ?_); rotate_left 1; (refine e02 o246_ fun _ h2 => ?_; try clear o246_); rotate_right 1; (refine e02 o245_ fun h1 _ => ?_; try clear o245_))
        · exact absurd h1 hxr
        · rw [h2, List.lookup_cons] at h
          simp only [beq_self_eq_true] at h
          (refine Or.elim (cf_lookup r (n + 1) ((x, n) :: acc) y) (fun o247_ => ?_) (fun o248_ => ?_); rotate_left 1; (refine e02 o248_ fun _ g1 => ?_; try clear o248_); rotate_right 1; (refine e02 o247_ fun _ q27_ => ?_; try clear o247_; obtain ⟨a, g1, g2, _⟩ := q27_))
          · rw [g1] at h
            have e : a = n := Option.some.inj h
            rw [e] at g2
            exact absurd g2 (Nat.not_succ_le_self _)
          · rw [g1, List.lookup_cons] at h
            split at h
            · rename_i q; exact beq_iff_eq.mp q
            · exact absurd (hacc _ _ h) (Nat.lt_irrefl _)
    · rw [if_neg hk] at hx h
      exact cf_inj r n acc hacc x hx y h
theorem own_ok {env : Env} {names : List (Str × NameKind)} {n : Nat} {acc : List (Str × Addr)} (hc : env.cells = cellsFrom n names acc) (hk : ∀ x ∈ cellNames names, env.kindOf x = some .cell) (hacc : ∀ y a, acc.lookup y = some a → a < n) : OwnOk env (cellObjs n names) (cellNames names) := by
  refine ⟨fun x hx => ⟨hk x hx, ?_⟩, fun x hx y h => cf_inj names n acc hacc x hx y (by rw [← hc]; exact h)⟩
  (refine Or.elim (cf_lookup names n acc x) (fun o249_ => ?_) (fun o250_ => ?_); rotate_left 1; (refine e02 o250_ fun h1 _ => ?_; try clear o250_); rotate_right 1; (refine e02 o249_ fun _ q28_ => ?_; try clear o249_; obtain ⟨a, h1, _, h2⟩ := q28_))
  · exact ⟨a, by rw [hc]; exact h1, h2⟩
  · exact absurd hx h1

noncomputable def setAll : List Str → List V → Vars → Vars
  | p :: ps, x :: xs, vars => setAll ps xs (setv p x vars)
  | _, _, vars => vars
theorem lookup_setAll : ∀ {ps : List Str} {xs : List V} {vars : Vars}, ps.Nodup → ∀ y, (setAll ps xs vars).lookup y = match (ps.zip xs).lookup y with | some v => some v | none => vars.lookup y
  | [], _, _, _, y => by simp [setAll]
  | _ :: _, [], _, _, y => by simp [setAll]
  | p :: ps, x :: xs, vars, hn, y => by
    rw [setAll, lookup_setAll (List.nodup_cons.mp hn).2]
    simp only [List.zip_cons_cons, List.lookup_cons]
    by_cases hy : y = p
    · subst hy
      have : (ps.zip xs).lookup y = none := by
        rw [List.lookup_eq_none_iff]
        intro q hq
        simp only [beq_eq_false_iff_ne, bne_iff_ne, ne_eq]
        exact fun z => (List.nodup_cons.mp hn).1 (z ▸ (List.of_mem_zip hq).1)
      rw [this, lookup_setv]; simp
    · have e1 : (y == p) = false := by simpa using hy
      simp only [e1, lookup_setv, if_neg hy]
theorem bindAll {M : Model} {A : Around} {E : Value → Shared → Prop} (f : Str × Value → PUnit → Sem (ForInStep PUnit)) (hf : ∀ n v u, f (n, v) u = (do storeName e.env n v; pure (.yield ⟨⟩))) :
    ∀ {ps : List Str} {vs : List Value} {xs : List V} {vars : Vars} {s : Shared} {fz ys : Lg} {ρ : List Addr} {g : Heap} {Q : PUnit → Shared → Prop}, ps.length = vs.length → (∀ x ∈ ps, TStore c e x) → Rep c e vars H fz ρ ys g s.heap s.toks → VRs fz ρ vs xs →
      (∀ h' tk', Rep c e (setAll ps xs vars) H fz ρ ys g h' tk' → Q ⟨⟩ { s with heap := h', toks := tk' }) → wpAny M A (forIn (ps.zip vs) ⟨⟩ f) Q E s
  | [], vs, xs, vars, s, _, _, _, _, _, hl, _, R, hv, k => by
    rw [List.zip_nil_left, List.forIn_nil]
    exact wpAny_pure (k s.heap s.toks R)
  | p :: ps, [], _, _, _, _, _, _, _, _, hl, _, _, _, _ => by simp at hl
  | p :: ps, v :: vs, _, vars, s, _, _, _, _, _, hl, hs, R, .cons h1 h2, k => by
    rw [List.zip_cons_cons, List.forIn_cons, hf]
    refine wpAny_bind (wpAny_bind (store (hs p (.head _)) R h1 fun h' tk' R' => wpAny_pure ?_))
    exact bindAll f hf (by simpa using hl) (fun x hx => hs x (.tail _ hx)) R' h2 k

noncomputable abbrev Amb.atC (c : Amb) (qual : Str) (scope : Scope) : Amb := { c with cn := qual, cs := scope, cl := cellsFrom (c.L + 1) scope.names [], fm := none }
theorem meets_defF {w : World} {lv n : Nat} {f : Addr} {qual name : Str} {params : Arguments} {body : List Stmt} {scope : Scope} {dV kV doc pm cdv ct oc : Value} {an od : Option Addr} {osl : Array (Option Value)} {xs dxs : List V} {ds : List Value} {mk : List Value → Args} {r : V} {H' J : List MO} {ps : List Str} {fl : Fl} (hfl : fl = .ret r ∨ (fl = .next ∧ r = .none))
    (hn1' : 1 ≤ n) (ho : (top0.heap_1 w.params).lookup f = some ⟨oc, od, .func (fnOf name qual params body scope dV kV doc pm an cdv ct), osl⟩) (hcd : codeIn (top0.heap_1 w.params) cdv qual = true)
    (hps : ps.length = xs.length + dxs.length) (hds : VRs [] [] ds dxs) (hbind : ∀ (s : Shared) (vs : List Value), vs.length = xs.length → (top0.heap_1 w.params).In s.heap → BindsTo s (fnOf name qual params body scope dV kV doc pm an cdv ct) (mk vs) (ps.zip (vs ++ ds)))
    (hnd : ps.Nodup) (hloc' : (ps.all fun x => decide (scope.names.lookup x = some NameKind.local ∨ x ∈ cellNames scope.names)) = true) (hlt : HOk H → HOk H') (hr : Vs.lt H.length xs = true → V.lt H'.length r = true) (hlen : H.length ≤ H'.length)
    (hcn : ((cellNames scope.names).all fun x => decide (scope.names.lookup x = some NameKind.cell)) = true)
    (hbody : ∀ (c : Amb), c.w = w → c.n = n → Room (c.atC qual scope) lv → HOk H → Vs.lt H.length xs = true → TS (c.atC qual scope) ⟨(c.atC qual scope).env, cellNames scope.names⟩ (ps.zip (xs ++ dxs)) H body fl [] (H' ++ J))
    (hco : scope.isCoroutine = false := by rfl) (hgen : scope.isGenerator = false := by rfl) (hk : scope.kind = .function := by rfl) : MeetsA w (lv + 1) n (.ref f) mk xs H r H' := by
  intro c s m fz ys ρ os g vs Q E hw G htk R l o hv k
  subst hw
  have hloc : ∀ x ∈ ps, scope.names.lookup x = some .local ∨ x ∈ cellNames scope.names := fun x hx => of_decide_eq_true (List.all_eq_true.mp hloc' x hx)
  have XS : (top0.heap_1 c.w.params).In s.heap := G.X.keeps l.F.keep
  have hvl : (vs ++ ds).length = ps.length := by rw [List.length_append, hv.length, hds.length, hps]
  have hvd : VRs fz ρ (vs ++ ds) (xs ++ dxs) := hv.append (hds.ext ⟨fun _ h => absurd h List.not_mem_nil, fun i a h => by simp at h⟩)
  refine codeAny_call_function (fd := fnOf name qual params body scope dV kV doc pm an cdv ct) (body := body) (by show c.dp < recursionLimit; have := R.dp; lia) (XS _ _ ho) rfl hco hgen rfl (codeRec_of XS hcd) (hbind s vs hv.length XS _ _ _ _ ?_)
  simp only [newFunctionEnv, Option.isSome_none, Bool.false_eq_true, if_false]
  refine wpAny_bind (wpAny_alloc ?_)
  refine wpAny_bind (wpAny_layCells _ (fun name kind cells => by cases hkc : kind == NameKind.cell <;> simp [hkc]) _ _ _ _ ?_)
  rw [show ({ s with heap := s.heap.push { cls := .type "frame", data := .dict #[] } } : Shared).heap.objs.size = s.heap.objs.size + 1 from Heap.size_push ..]
  generalize hF : s.heap.push { cls := .type "frame", data := .dict #[] } = HF
  have hFs : HF.objs.size = s.heap.objs.size + 1 := by rw [← hF, Heap.size_push]
  have keepF : ∀ b ob, s.heap.get? b = some ob → HF.get? b = some ob := fun b ob q => hF ▸ Heap.get?_push_of_some _ q
  (refine e04 (groundX (R := fun _ _ => True) (A := c.A) (env := c.env) G.B l.F l.N rfl rfl G.ok.hk) fun FG BG st _ => ?_)
  generalize hg1 : hideAll s.heap ((ρ.zip os ++ ys ++ fz).map (·.1)) = g1 at FG BG st
  have hLg : ∃ oL es ep, g1.get? c.L = some oL ∧ oL.data = .dict es ep := by (refine e33 (FG.ns) fun oL es ep a b _ => ?_); exact ⟨oL, es, ep, a, b⟩
  let c' : Amb := { c.sub qual scope s.heap.objs.size f cdv with n := n, cl := cellsFrom (s.heap.objs.size + 1) scope.names [] }
  have l0 : Led s.heap.objs.size g1 HF (fun _ => none) fz (ρ.zip os ++ ys) := by
    subst hg1
    refine ⟨⟨hF ▸ Heap.Ns.new s.heap (.type "frame"), fun b o e => keepF b o (of_hideAll _ e), Nat.le_of_eq (hideAll_size _ _)⟩, fun p hp => ⟨keepF _ _ (l.N p hp).1, Nat.ne_of_lt (Heap.lt_size (l.N p hp).1), hideAll_none _ (List.mem_map_of_mem hp)⟩, l.nd, l.ap⟩
  have l1 := Led.pushCells scope.names l0
  rw [hFs] at l1
  have D1 : KtsDicts c'.fs g1 := fun b hb => by
    (refine Or.elim (kts_memX (L := c.L) rfl hb) (fun o251_ => ?_) (fun hb => ?_); subst o251_)
    · exact hLg
    · (refine e32 (G.D b hb) fun o es' n' ho' hd' => ?_)
      exact ⟨o, es', n', st b o ho', hd'⟩
  have G1 : Gr c' g1 := ⟨⟨G.ok.XB, G.ok.TB, hk, hn1', Nat.le_add_left 1 c.dp, Nat.le_add_left 3 c.un⟩, BG, D1⟩
  have hown : OwnOk c'.env (cellObjs (s.heap.objs.size + 1) scope.names) (cellNames scope.names) := own_ok (acc := []) rfl (fun x hx => of_decide_eq_true (List.all_eq_true.mp hcn x hx)) fun y a q => by simp at q
  have R0 : Rep c' ⟨c'.env, cellNames scope.names⟩ [] H fz ρ ys g1 (PySem.pushCells HF scope.names) s.toks :=
    ⟨G1, htk, ⟨hk, rfl, rfl⟩, _, os, _, l1, o, ⟨fun x v q => by simp at q, fun x hx => by
      (refine e02 (hown.1 x hx) fun b1 q29_ => ?_; obtain ⟨ca, b2, b3⟩ := q29_)
      exact ⟨b1, ca, cellO, none, b2, b3, rfl⟩, hown.2, .inl rfl, fun m₀ q => nomatch q⟩⟩
  have hvl2 : Vs.lt H.length xs = true := by rw [o.lenH]; exact hv.lt
  refine wpAny_bind (bindAll (c := c') (e := ⟨c'.env, cellNames scope.names⟩) _ (fun _ _ _ => rfl) (by lia) (fun x hx => (hloc x hx).imp id id) (s := { s with heap := PySem.pushCells HF scope.names }) R0 hvd fun hB tkB RB => wpAny_pure ?_)
  have R1 : Rep c' ⟨c'.env, cellNames scope.names⟩ (ps.zip (xs ++ dxs)) H fz ρ ys g1 hB tkB := RB.forget fun x v q => by rw [lookup_setAll hnd, q]
  have hlimB : hB.NoLimit := by
    obtain ⟨_, _, _, lB, _, _⟩ := RB.ex
    exact RB.gr.T.nolimit.keeps lB.F.keep
  refine ⟨hlimB, codeAny_func ?_⟩
  have hb := hbody c' rfl rfl ⟨by show c.dp + 1 + lv < _; have := R.dp; lia, by show c.un + 3 + 8 * lv + 64 < _; have := R.un; lia⟩ o.ok hvl2
  refine hb _ _ _ _ _ _ _ R1 fun fv h' tk' g1' fz' ρ' T X hfv R2 => ?_
  have tail : ∀ v, VR fz' ρ' v r → Q v { s with heap := h', toks := tk' } := fun v hvr => by
    obtain ⟨m2, os2, ls2, l2, o2, f2⟩ := R2.ex
    have l2' : Led s.heap.objs.size g1' h' m2 fz' (ρ'.zip os2 ++ ys) := l2.sublist (List.sublist_append_right _ _)
    (refine e13 (back G l st FG hLg T l2') fun g' T' G' l3 => ?_)
    have hn : H'.length ≤ ρ'.length := by rw [← o2.lenH]; simp
    have hn' : H'.length ≤ os2.length := by rw [o2.len]; exact hn
    have hcut : ρ'.zip os2 = (ρ'.take H'.length).zip (os2.take H'.length) ++ (ρ'.drop H'.length).zip (os2.drop H'.length) := by
      conv => lhs; rw [← List.take_append_drop H'.length ρ', ← List.take_append_drop H'.length os2]
      exact List.zip_append (by simp; lia)
    have hsubl : List.Sublist ((ρ'.take H'.length).zip (os2.take H'.length) ++ ys) (ρ'.zip os2 ++ ys) := by
      rw [hcut]; exact List.Sublist.append (List.sublist_append_left _ _) (List.Sublist.refl _)
    have l4 : Led c.L g' h' m fz' ((ρ'.take H'.length).zip (os2.take H'.length) ++ ys) := l3.sublist hsubl
    have o4 : ObjsR c.w fz' (ρ'.take H'.length) (os2.take H'.length) H' := by
      refine ⟨by simp; lia, by simp; lia, fun i oo mo a b => ?_, fun i es b p q => o2.lo i es b (by
        have hi : i < H'.length := by
          (refine Or.elim (Nat.lt_or_ge i H'.length) (fun z => ?_) (fun z => ?_))
          · exact z
          · rw [List.getElem?_eq_none z] at p; exact ns p
        rw [List.getElem?_append_left hi]; exact p) (by
        have hi : i < H'.length := by
          (refine Or.elim (Nat.lt_or_ge i H'.length) (fun z => ?_) (fun z => ?_))
          · exact z
          · rw [List.getElem?_eq_none z] at p; exact ns p
        rw [List.getElem?_take, if_pos hi] at q; exact q)⟩
      have hi : i < H'.length := by
        (refine Or.elim (Nat.lt_or_ge i H'.length) (fun q => ?_) (fun q => ?_))
        · exact q
        · rw [List.getElem?_eq_none q] at b; exact ns b
      rw [List.getElem?_take, if_pos hi] at a
      exact (o2.at_ i oo mo a (by rw [List.getElem?_append_left hi]; exact b)).cut _ (hlt o.ok mo (List.mem_of_getElem? b))
    have hX : Ext fz fz' ρ (ρ'.take H'.length) := ⟨X.sub, fun i a q => by
      have hi : i < H.length := by
        rw [o.lenH]
        (refine Or.elim (Nat.lt_or_ge i ρ.length) (fun z => ?_) (fun z => ?_))
        · exact z
        · rw [List.getElem?_eq_none z] at q; exact ns q
      rw [List.getElem?_take, if_pos (by lia)]; exact X.pre i a q⟩
    exact k v h' tk' g' fz' _ _ T' G' hX l4 o4 (hvr.cut _ (hr hvl2))
  (refine Or.elim hfl (fun o252_ => ?_) (fun o253_ => ?_); rotate_left 1; try clear hfl; (refine e02 o253_ fun q13_ q14_ => ?_; try clear o253_; subst q13_; subst q14_); rotate_right 1; try clear hfl; subst o252_)
  · cases hfv with | ret h => exact tail _ h
  · cases hfv; exact tail _ .none
theorem meets_defC {w : World} {lv n : Nat} {f : Addr} {qual name : Str} {params : Arguments} {body : List Stmt} {scope : Scope} {dV kV doc pm cdv ct oc : Value} {an od : Option Addr} {osl : Array (Option Value)} {xs dxs : List V} {ds : List Value} {mk : List Value → Args} {r : V} {H' J : List MO} {ps : List Str}
    (hn1' : 1 ≤ n) (ho : (top0.heap_1 w.params).lookup f = some ⟨oc, od, .func (fnOf name qual params body scope dV kV doc pm an cdv ct), osl⟩) (hcd : codeIn (top0.heap_1 w.params) cdv qual = true)
    (hps : ps.length = xs.length + dxs.length) (hds : VRs [] [] ds dxs) (hbind : ∀ (s : Shared) (vs : List Value), vs.length = xs.length → (top0.heap_1 w.params).In s.heap → BindsTo s (fnOf name qual params body scope dV kV doc pm an cdv ct) (mk vs) (ps.zip (vs ++ ds)))
    (hnd : ps.Nodup) (hloc' : (ps.all fun x => decide (scope.names.lookup x = some NameKind.local ∨ x ∈ cellNames scope.names)) = true) (hlt : HOk H → HOk H') (hr : Vs.lt H.length xs = true → V.lt H'.length r = true) (hlen : H.length ≤ H'.length)
    (hcn : ((cellNames scope.names).all fun x => decide (scope.names.lookup x = some NameKind.cell)) = true)
    (hbody : ∀ (c : Amb), c.w = w → c.n = n → Room (c.atC qual scope) lv → HOk H → Vs.lt H.length xs = true → TS (c.atC qual scope) ⟨(c.atC qual scope).env, cellNames scope.names⟩ (ps.zip (xs ++ dxs)) H body (.ret r) [] (H' ++ J))
    (hco : scope.isCoroutine = false := by rfl) (hgen : scope.isGenerator = false := by rfl) (hk : scope.kind = .function := by rfl) : MeetsA w (lv + 1) n (.ref f) mk xs H r H' :=
  meets_defF (.inl rfl) hn1' ho hcd hps hds hbind hnd hloc' hlt hr hlen hcn hbody hco hgen hk
theorem meets_defN {w : World} {lv n : Nat} {f : Addr} {qual name : Str} {params : Arguments} {body : List Stmt} {scope : Scope} {dV kV doc pm cdv ct oc : Value} {an od : Option Addr} {osl : Array (Option Value)} {xs dxs : List V} {ds : List Value} {mk : List Value → Args} {H' J : List MO} {ps : List Str}
    (hn1' : 1 ≤ n) (ho : (top0.heap_1 w.params).lookup f = some ⟨oc, od, .func (fnOf name qual params body scope dV kV doc pm an cdv ct), osl⟩) (hcd : codeIn (top0.heap_1 w.params) cdv qual = true)
    (hps : ps.length = xs.length + dxs.length) (hds : VRs [] [] ds dxs) (hbind : ∀ (s : Shared) (vs : List Value), vs.length = xs.length → (top0.heap_1 w.params).In s.heap → BindsTo s (fnOf name qual params body scope dV kV doc pm an cdv ct) (mk vs) (ps.zip (vs ++ ds)))
    (hnd : ps.Nodup) (hloc' : (ps.all fun x => decide (scope.names.lookup x = some NameKind.local ∨ x ∈ cellNames scope.names)) = true) (hlt : HOk H → HOk H') (hlen : H.length ≤ H'.length)
    (hcn : ((cellNames scope.names).all fun x => decide (scope.names.lookup x = some NameKind.cell)) = true)
    (hbody : ∀ (c : Amb), c.w = w → c.n = n → Room (c.atC qual scope) lv → HOk H → Vs.lt H.length xs = true → TS (c.atC qual scope) ⟨(c.atC qual scope).env, cellNames scope.names⟩ (ps.zip (xs ++ dxs)) H body .next [] (H' ++ J))
    (hco : scope.isCoroutine = false := by rfl) (hgen : scope.isGenerator = false := by rfl) (hk : scope.kind = .function := by rfl) : MeetsA w (lv + 1) n (.ref f) mk xs H .none H' :=
  meets_defF (.inr ⟨rfl, rfl⟩) hn1' ho hcd hps hds hbind hnd hloc' hlt (fun _ => rfl) hlen hcn hbody hco hgen hk
end Mine
end

section
open PySem PySem.W PyProof.Rows PySem.Calls PyProof.Rows.LCg
set_option Elab.async false
set_option linter.all false
set_option maxRecDepth 100000
set_option maxHeartbeats 1000000
namespace Mine
variable {c : Amb} {e : Sc} {vars vars' vars'' : Vars} {H H1 H2 H3 : List MO}

theorem upd_mem {a : Addr} {o o' : Obj} : ∀ {l : Lg}, (a, o) ∈ l → (l.map (·.1)).Nodup → Upd a o o' l (put a o' l)
  | [], h, _ => absurd h List.not_mem_nil
  | p :: r, h, nd => by
    have h1 := List.nodup_cons.mp nd
    (refine Or.elim (List.mem_cons.mp h) (fun o254_ => ?_) (fun h2 => ?_); subst o254_)
    · have : put a o' ((a, o) :: r) = (a, o') :: r := Rep.put_head nd
      rw [this]
      exact .head fun q hq z => h1.1 (List.mem_map.mpr ⟨q, hq, z⟩)
    · have hp : p.1 ≠ a := fun z => h1.1 (List.mem_map.mpr ⟨_, h2, z.symm⟩)
      have : put a o' (p :: r) = p :: put a o' r := by unfold put; rw [List.map_cons, if_neg hp]
      rw [this]
      exact .tail hp (upd_mem h2 h1.2)
theorem Upd.app {a : Addr} {o o' : Obj} {l l' r : Lg} (h : Upd a o o' l l') (hr : ∀ p ∈ r, p.1 ≠ a) : Upd a o o' (l ++ r) (l' ++ r) := by
  induction h with
  | head q => exact .head fun p hp => (List.mem_append.mp hp).elim (q p) (hr p)
  | tail q _ ih => exact .tail q ih
theorem Rep.openU {fz ys : Lg} {ρ : List Addr} {g h : Heap} {tk : Nat} (R : Rep c e vars H fz ρ ys g h tk) {i : Nat} {mo : MO} (q : H[i]? = some mo) :
    ∃ a o m news, ρ[i]? = some a ∧ ObjR c.w fz ρ o mo ∧ Fr g c.L h m ∧ News g c.L h news ∧ (a, o) ∈ news ∧
      ∀ o', ∃ news', Upd a o o' news news' ∧ ∀ h' mo' tk', tk ≤ tk' → Fr g c.L h' m → News g c.L h' news' → ObjR c.w fz ρ o' mo' → (∀ es, mo' ≠ .dict es) → Rep c e vars (H.set i mo') fz ρ ys g h' tk' := by
  obtain ⟨m, os, xs, l, r, f⟩ := R.ex
  (refine e23 (r.get q) fun a o h1 h2 h3 => ?_)
  have hz : (a, o) ∈ ρ.zip os := zip_mem h1 h2
  have hm : (a, o) ∈ xs ++ (ρ.zip os ++ ys) := List.mem_append_right _ (List.mem_append_left _ hz)
  refine ⟨a, o, m, (xs ++ (ρ.zip os ++ ys)) ++ fz, h1, h3, l.F, l.N, List.mem_append_left _ hm, fun o' => ⟨put a o' (xs ++ (ρ.zip os ++ ys)) ++ fz, ?_, fun h' mo' tk' hle F' N' r' hnd => ?_⟩⟩
  · exact Upd.app (upd_mem hm l.nd) fun p hp z => l.ap p hp (List.mem_map.mpr ⟨_, hm, z.symm⟩)
  · have l' : Led c.L g h' m fz (put a o' (xs ++ (ρ.zip os ++ ys))) := ⟨F', N', by rw [put_fst]; exact l.nd, fun p hp => by rw [put_fst]; exact l.ap p hp⟩
    have nd := l.nd
    have hρ := l.nodupR r.len
    have ha : a ∈ (ρ.zip os).map (·.1) := List.mem_map.mpr ⟨_, hz, rfl⟩
    rw [List.map_append, List.map_append] at nd
    have n1 := List.nodup_append.mp nd
    have n2 := List.nodup_append.mp n1.2.1
    have hx : a ∉ xs.map (·.1) := fun z => n1.2.2 _ z _ (List.mem_append_left _ ha) rfl
    have hy : a ∉ ys.map (·.1) := fun z => n2.2.2 _ ha _ z rfl
    rw [put_append, put_append, put_none hx, put_none hy, put_zip hρ h1 r.len] at l'
    exact ⟨R.gr, Nat.le_trans R.lo hle, R.env, m, os.set i o', xs, l', r.set r' (fun es b q1 _ => absurd q1 (hnd es)), f⟩

set_option genInjectivity false in
structure InsR (c : Amb) (fz : Lg) (ρ : List Addr) (h : Heap) (j : Nat) (mx : Option V) (v : Value) where
  a : Addr
  dx : Addr
  es : List DictEntry
  n : Nat
  ev : v = .ref a
  hj : ρ[j]? = some dx
  ins : InstAt h a (hdrO dx) 286 (some (dictOf es n))
  ent : match mx with
    | none => es = [] ∧ n = 0
    | some x => ∃ (hh : Int) (t : Tok) (xv : Value), es = [⟨hh, .str (Str.ofString "_headers") t, xv⟩] ∧ VR fz ρ xv x
theorem Rep.inst {fz ys : Lg} {ρ : List Addr} {g h : Heap} {tk : Nat} (R : Rep c e vars H fz ρ ys g h tk) {i j : Nat} {mx : Option V} {v : Value} (hi : H[i]? = some (.inst j)) (hj : H[j]? = some (.idict mx)) (hv : VR fz ρ v (.obj i)) : Nonempty (InsR c fz ρ h j mx v) := by
  induction hv using VR.objE with
  | k ha =>
    (refine e23 (R.get hi) fun a' o h1 h2 h3 => ?_)
    rw [ha] at h1; (replace h1 := Option.some.inj h1; subst h1)
    (refine e23 (R.get hj) fun dx od g1 g2 g3 => ?_)
    cases h3 with
    | inst hd =>
      rw [g1] at hd; (replace hd := Option.some.inj hd; subst hd)
      cases g3 with
      | idict0 => exact ⟨⟨_, _, [], 0, rfl, g1, ⟨h2, rfl, rfl, g2⟩, rfl, rfl⟩⟩
      | idict1 hx => exact ⟨⟨_, _, _, _, rfl, g1, ⟨h2, rfl, rfl, g2⟩, _, _, _, rfl, hx⟩⟩
theorem Rep.fr {fz ys : Lg} {ρ : List Addr} {g h : Heap} {tk : Nat} (R : Rep c e vars H fz ρ ys g h tk) : ∃ m, Fr g c.L h m := let ⟨m, _, _, l, _, _⟩ := R.ex; ⟨m, l.F⟩
theorem VR.handed {fz : Lg} {ρ : List Addr} {v : Value} {i : Nat} (h : VR fz ρ v (.obj i)) : handedIn v = true := by induction h using VR.objE; rfl

theorem TE_attr {x : Str} {np pos : Pos} {i j k : Nat} (h1 : TE c e vars H (eval (.Name x np) e.env) (.obj i) H) (hi : H[i]? = some (.inst j)) (hj : H[j]? = some (.idict (some (.obj k))))
    (ha : findIn (top0.heap_1 c.w.params) (.ref 286) (Str.ofString "_headers") = some none) (hg : plainGet (top0.heap_1 c.w.params) 286 (Str.ofString "_headers") = true) (hh : hasDictIn (top0.heap_1 c.w.params) 286 = true) (hn : noGet (top0.heap_1 c.w.params) none = true) :
    TE c e vars H (eval (.Attribute (.Name x np) (Str.ofString "_headers") pos) e.env) (.obj k) H := fun s fz ys ρ g Q E R kk => by
  refine Attribute_Name_ (h1 _ _ _ _ _ _ _ R fun v hh1 tk1 g1 fz1 ρ1 T1 X1 v1 R1 => ?_)
  obtain ⟨I⟩ := R1.inst hi hj v1
  obtain ⟨a, dx, es, n, rfl, hd1, ins, hhh, t, xv, rfl, hx⟩ := I
  (refine Exists.elim (R1.fr) fun m F => ?_)
  exact get_own F R1.gr.X ins hg hh ha hn (by rfl) (VR.handed hx) (kk xv _ _ g1 fz1 ρ1 T1 X1 hx (R1.up (Nat.le_succ _)))
theorem TS1_setattr {x : Str} {np apos pos : Pos} {value : Expr} {i j k : Nat} (h0 : TE c e vars H (eval value e.env) (.obj k) H1) (h1 : TE c e vars H1 (eval (.Name x np) e.env) (.obj i) H1) (hi : H1[i]? = some (.inst j)) (hj : H1[j]? = some (.idict none))
    (hs : findIn (top0.heap_1 c.w.params) (.ref 286) (Str.ofString "__setattr__") = some (some (.builtin "object.__setattr__"))) (hp : plainOver (top0.heap_1 c.w.params) 286 = true) (ht : takerIn (top0.heap_1 c.w.params) 286 (Str.ofString "_headers") = some none) (hh : hasDictIn (top0.heap_1 c.w.params) 286 = true)
    (hsw : swapsWith value (some (.Attribute (.Name x np) (Str.ofString "_headers") apos)) pos.line e.env = pure false) :
    TS1 c e vars H (.Assign [.Attribute (.Name x np) (Str.ofString "_headers") apos] value pos) .next vars (H1.set j (.idict (some (.obj k)))) := fun s fz ys ρ g Q E R kk => by
  refine plainObj_wpAny_Assign_Attribute (h0 _ _ _ _ _ _ _ R fun xv hh1 tk1 g1 fz1 ρ1 T1 X1 v1 R1 => ?_) hsw
  refine h1 _ _ _ _ _ _ _ R1 fun v hh2 tk2 g2 fz2 ρ2 T2 X2 v2 R2 => ?_
  obtain ⟨I⟩ := R2.inst hi hj v2
  obtain ⟨a, dx, es, n, rfl, hd1, ins, rfl, rfl⟩ := I
  (refine e46 (R2.openU hj) fun dx' o m news g1' g2' F N hm up => ?_)
  rw [hd1] at g1'; (replace g1' := Option.some.inj g1'; subst g1')
  have eo : o = dictOf [] 0 := by
    have := ins.dict
    have z := (N _ hm).1
    dsimp only at this z
    rw [this] at z; exact (Option.some.inj z).symm
  subst eo
  (refine e12 (up (dictOf [⟨PyData.keyHash c.w.params (Str.ofString "_headers"), .str (Str.ofString "_headers") (tk2 + 1), xv⟩] 1)) fun news' U fin => ?_)
  refine set_dict F R2.gr.X N ins rfl hs hp ht hh (by rfl) (by rfl) U (by show 1 ≤ 1000; lia) fun h' F' N' => ?_
  exact kk .next h' _ g2 fz2 ρ2 (T1.trans T2) (X1.trans X2) .next (fin h' _ _ (Nat.le_add_right _ _) F' N' (.idict1 (v1.ext X2)) (fun es q => by cases q))

theorem meets_at {lv n : Nat} {f : Value} {mk : List Value → Args} {xs : List V} {r : V} (c' : Amb) (hw : c'.w = c.w) (hL : c'.L = c.L) (hfs : c'.fs = c.fs) (hG : ∀ g, Gr c g → Gr c' g) (hG' : ∀ g, Gr c' g → Gr c g) (h : MeetsA c.w lv n f mk xs H r H1) (hn : n ≤ c.n) (hr : Room c' lv) {vs : List Value} {s : Shared} {fz ys : Lg} {ρ : List Addr} {g : Heap} {Q : Value → Shared → Prop} {E : Value → Shared → Prop}
    (R : Rep c e vars H fz ρ ys g s.heap s.toks) (hv : VRs fz ρ vs xs)
    (k : ∀ (v : Value) (h' : Heap) (tk' : Nat) (g' : Heap) (fz' : Lg) (ρ' : List Addr), KtsTurn c.fs g g' → Ext fz fz' ρ ρ' → VR fz' ρ' v r → Rep c e vars H1 fz' ρ' ys g' h' tk' → Q v { s with heap := h', toks := tk' }) :
    wpAny c.M c'.A (call f (mk vs).pos (mk vs).kw) Q E s := by
  obtain ⟨m, os, ls, l, o, ff⟩ := R.ex
  have p : ∀ (A : Lg), (ls ++ (A ++ ys)).Perm (A ++ (ls ++ ys)) := fun A => by
    rw [← List.append_assoc, ← List.append_assoc]
    exact List.Perm.append_right ys List.perm_append_comm
  have hM : c.M = c'.M := by show model _ c.w = model _ c'.w; rw [hw]
  rw [hM]
  refine wpAny_with_toks (Nat.le_refl s.toks) (wpAny_mono (h.wp c' s m fz (ls ++ ys) ρ os g vs _ E hw (hG _ R.gr) (Nat.le_trans hn R.lo) hr (hL ▸ l.perm (p _)) o hv fun v h' tk' g' fz' ρ' os' T G' X l' o' hv' => ?_) (fun _ _ x => x) fun _ _ x _ => x)
  intro hle
  exact k v h' tk' g' fz' ρ' (hfs ▸ T) X hv' ⟨hG' _ G', Nat.le_trans R.lo hle, R.env, m, os', ls, (hL ▸ l'.perm (p _).symm), o', Rep.fm_ext ff X⟩
theorem Gr.un {g : Heap} {k : Nat} (x : Gr c g) : Gr { c with un := c.un + k } g := ⟨⟨x.ok.XB, x.ok.TB, x.ok.hk, x.ok.n1, x.ok.d1, Nat.le_trans x.ok.d3 (Nat.le_add_right _ _)⟩, x.B, x.D⟩
theorem meets_in1 {lv n : Nat} {f : Value} {mk : List Value → Args} {xs : List V} {r : V} (h : MeetsA c.w lv n f mk xs H r H1) (hn : n ≤ c.n) (hr : Room c (lv + 1)) {vs : List Value} {s : Shared} {fz ys : Lg} {ρ : List Addr} {g : Heap} {Q : Value → Shared → Prop} {E : Value → Shared → Prop}
    (R : Rep c e vars H fz ρ ys g s.heap s.toks) (hv : VRs fz ρ vs xs)
    (k : ∀ (v : Value) (h' : Heap) (tk' : Nat) (g' : Heap) (fz' : Lg) (ρ' : List Addr), KtsTurn c.fs g g' → Ext fz fz' ρ ρ' → VR fz' ρ' v r → Rep c e vars H1 fz' ρ' ys g' h' tk' → Q v { s with heap := h', toks := tk' }) :
    wpAny c.M c.A.in1 (call f (mk vs).pos (mk vs).kw) Q E s := by
  have ok := R.gr.ok
  exact meets_at (c := c) { c with un := c.un + 1 } rfl rfl rfl (fun g x => x.un) (fun g x => ⟨ok, x.B, x.D⟩) h hn ⟨by show c.dp + lv < _; have := hr.dp; lia, by show c.un + 1 + 8 * lv + 64 < _; have := hr.un; lia⟩ R hv k
theorem meets_here {lv n : Nat} {f : Value} {mk : List Value → Args} {xs : List V} {r : V} (h : MeetsA c.w lv n f mk xs H r H1) (hn : n ≤ c.n) (hr : Room c lv) {vs : List Value} {s : Shared} {fz ys : Lg} {ρ : List Addr} {g : Heap} {Q : Value → Shared → Prop} {E : Value → Shared → Prop}
    (R : Rep c e vars H fz ρ ys g s.heap s.toks) (hv : VRs fz ρ vs xs)
    (k : ∀ (v : Value) (h' : Heap) (tk' : Nat) (g' : Heap) (fz' : Lg) (ρ' : List Addr), KtsTurn c.fs g g' → Ext fz fz' ρ ρ' → VR fz' ρ' v r → Rep c e vars H1 fz' ρ' ys g' h' tk' → Q v { s with heap := h', toks := tk' }) :
    wpAny c.M c.A (call f (mk vs).pos (mk vs).kw) Q E s := meets_at (c := c) c rfl rfl rfl (fun g x => x) (fun g x => x) h hn hr R hv k

section
variable {lv n : Nat} {f : Addr} {i j : Nat} {mx : Option V}
theorem PO_in {x : V} {b : Bool} (hi : H[i]? = some (.inst j)) (hj : H[j]? = some (.idict mx)) (hs : findIn (top0.heap_1 c.w.params) (.ref 286) (Str.ofString "__contains__") = some (some (.ref f))) (hf : isFn (top0.heap_1 c.w.params) (.ref f) = true)
    (h : Meets c.w lv n (.ref f) [.obj i, x] H (.bool b) H1) (hn : n ≤ c.n) (hr : Room c lv) : PO c e vars H (compareOp .In) x (.obj i) (.bool b) H1 := fun a v s fz ys ρ g Q E R ha hv k => by
  obtain ⟨I⟩ := R.inst hi hj hv
  (refine Exists.elim (R.fr) fun m F => ?_)
  have hv2 := hv
  obtain ⟨ad, dx, es, nn, rfl, hd1, ins, _⟩ := I
  refine in_K F R.gr.X ins hs hf ?_
  refine meets_here h hn hr R (.cons hv2 (.cons ha .nil)) fun r h' tk' g' fz' ρ' T X hr' R' => ?_
  cases hr'
  exact wpAny_truthy_bool (k _ h' tk' g' fz' ρ' T X (.bool b) R')
theorem PO_getitem {x r : V} {value slice : Expr} (hi : H[i]? = some (.inst j)) (hj : H[j]? = some (.idict mx)) (hs : findIn (top0.heap_1 c.w.params) (.ref 286) (Str.ofString "__getitem__") = some (some (.ref f))) (hf : fnIn (top0.heap_1 c.w.params) f = true) (hfn : isFn (top0.heap_1 c.w.params) (.ref f) = true)
    (h : Meets c.w lv n (.ref f) [.obj i, x] H r H1) (hn : n ≤ c.n) (hr : Room c (lv + 1)) (hsl : ∀ a v, subscripted slice true (.ref a) v = runValue (.builtin "lifetime.subscript" ⟨[.ref a, v], []⟩)) :
    PO c e vars H (subscriptTail value slice) (.obj i) x r H1 := fun a v s fz ys ρ g Q E R ha hv k => by
  obtain ⟨I⟩ := R.inst hi hj ha
  (refine Exists.elim (R.fr) fun m F => ?_)
  have ha2 := ha
  obtain ⟨ad, dx, es, nn, rfl, hd1, ins, _⟩ := I
  exact sub_K F R.gr.X ins hs hf hfn (meets_in1 h hn hr R (.cons ha2 (.cons hv .nil)) k) (hsl _ _)
theorem TS1_setitem {o ix value : Expr} {spos pos : Pos} {x y r : V} (h0 : TE c e vars H (eval value e.env) y H) (h1 : TE c e vars H (eval o e.env) (.obj i) H) (h2 : TE c e vars H (eval ix e.env) x H) (hi : H[i]? = some (.inst j)) (hj : H[j]? = some (.idict mx))
    (hq : noSeq (top0.heap_1 c.w.params) 286 = true) (hs : findIn (top0.heap_1 c.w.params) (.ref 286) (Str.ofString "__setitem__") = some (some (.ref f))) (hf : isFn (top0.heap_1 c.w.params) (.ref f) = true)
    (h : Meets c.w lv n (.ref f) [.obj i, x, y] H r H1) (hn : n ≤ c.n) (hr : Room c lv) (hsw : swapsWith value (some (.Subscript o ix spos)) pos.line e.env = pure false) : TS1 c e vars H (.Assign [.Subscript o ix spos] value pos) .next vars H1 := fun s fz ys ρ g Q E R k => by
  refine wpAny_Assign_Subscript (h0 _ _ _ _ _ _ _ R fun yv hh0 tk0 g0 fz0 ρ0 T0 X0 v0 R0 => ?_) hsw
  refine h1 _ _ _ _ _ _ _ R0 fun ov hh1 tk1 g1 fz1 ρ1 T1 X1 v1 R1 => ?_
  refine h2 _ _ _ _ _ _ _ R1 fun xv hh2 tk2 g2 fz2 ρ2 T2 X2 v2 R2 => ?_
  have v1' := v1.ext X2
  obtain ⟨I⟩ := R2.inst hi hj v1'
  (refine Exists.elim (R2.fr) fun m F => ?_)
  have v3 := v1'
  obtain ⟨ad, dx, es, nn, rfl, hd1, ins, _⟩ := I
  refine ksp_setItem F R2.gr.X ins hq hs hf ?_
  exact meets_here h hn hr R2 (.cons v3 (.cons v2 (.cons ((v0.ext X1).ext X2) .nil))) fun r h' tk' g' fz' ρ' T X hr' R' => k .next h' tk' g' fz' ρ' (((T0.trans T1).trans T2).trans T) (((X0.trans X1).trans X2).trans X) .next R'
theorem delItem_K {M : Model} {A : Around} {E : Value → Shared → Prop} {s : Shared} {K : Frag} {C x L : Addr} {ox : Obj} {od : Option Obj} {h₀ : Heap} {m : Str → Option Value} {v : Value} {Q : Unit → Shared → Prop} (F : Fr h₀ L s.heap m) (X₀ : K.In h₀) (I : InstAt s.heap x ox C od) (hq : noSeq K C = true) (hs : findIn K (.ref C) "__delitem__" = some (some (.ref f))) (hf : isFn K (.ref f) = true)
    (h : wpAny M A (call (.ref f) [.ref x, v]) (fun _ s' => Q () s') E s) : wpAny M A (delItem (.ref x) v) Q E s := by
  have X := X₀.keeps F.keep
  unfold delItem sequenceKey
  refine wpAny_holding (wpAny_bind (wpAny_bind (I.type.here ?_)))
  refine wpAny_bind ((anyM_none X hq).here ?_)
  rw [if_pos (show (!false) = true from rfl)]
  exact wpAny_pure (wpAny_bind (special_fn X I hs (beq_iff_eq.mp hf) (wpAny_mono h (fun _ _ z => wpAny_pure z) fun _ _ z => z)))
theorem TS1_delitem {o ix : Expr} {spos pos : Pos} {x r : V} (h1 : TE c e vars H (eval o e.env) (.obj i) H) (h2 : TE c e vars H (eval ix e.env) x H) (hi : H[i]? = some (.inst j)) (hj : H[j]? = some (.idict mx))
    (hq : noSeq (top0.heap_1 c.w.params) 286 = true) (hs : findIn (top0.heap_1 c.w.params) (.ref 286) (Str.ofString "__delitem__") = some (some (.ref f))) (hf : isFn (top0.heap_1 c.w.params) (.ref f) = true)
    (h : Meets c.w lv n (.ref f) [.obj i, x] H r H1) (hn : n ≤ c.n) (hr : Room c lv) : TS1 c e vars H (.Delete [.Subscript o ix spos] pos) .next vars H1 := fun s fz ys ρ g Q E R k => by
  refine wpAny_Delete (wpAny_deleteEach_cons (wpAny_delete_Subscript (h1 _ _ _ _ _ _ _ R fun ov hh1 tk1 g1 fz1 ρ1 T1 X1 v1 R1 => ?_)))
  refine h2 _ _ _ _ _ _ _ R1 fun xv hh2 tk2 g2 fz2 ρ2 T2 X2 v2 R2 => ?_
  have v1' := v1.ext X2
  obtain ⟨I⟩ := R2.inst hi hj v1'
  (refine Exists.elim (R2.fr) fun m F => ?_)
  have v3 := v1'
  obtain ⟨ad, dx, es, nn, rfl, hd1, ins, _⟩ := I
  refine delItem_K F R2.gr.X ins hq hs hf ?_
  exact meets_here h hn hr R2 (.cons v3 (.cons v2 .nil)) fun r h' tk' g' fz' ρ' T X hr' R' => wpAny_deleteEach_nil (k .next h' tk' g' fz' ρ' ((T1.trans T2).trans T) ((X1.trans X2).trans X) .next R')
theorem PC_lenI {z : Int} {rr : Tok → Prop} (hi : H[i]? = some (.inst j)) (hj : H[j]? = some (.idict mx)) (hs : findIn (top0.heap_1 c.w.params) (.ref 286) (Str.ofString "__len__") = some (some (.ref f))) (hf : isFn (top0.heap_1 c.w.params) (.ref f) = true)
    (h : Meets c.w lv n (.ref f) [.obj i] H (.intP z rr) H1) (hz : 0 ≤ z ∧ z < 2 ^ 63) (hn : n ≤ c.n) (hr : Room c (lv + 1)) : PC c e vars H (.builtin "len") [.obj i] (.int z) H1 := fun vs s fz ys ρ g Q E R hv k => by
  induction hv using VRs.consE with
  | k ha hnil =>
    induction hnil using VRs.nilE
    obtain ⟨I⟩ := R.inst hi hj ha
    (refine Exists.elim (R.fr) fun m F => ?_)
    have ha2 := ha
    obtain ⟨ad, dx, es, nn, rfl, hd1, ins, _⟩ := I
    refine PySem.W.len_K F R.gr.X ins hs hf (meets_in1 h hn hr R (.cons ha2 .nil) fun r h' tk' g' fz' ρ' T X hr' R' => ?_)
    induction hr' using VR.intE with
    | k t _ => exact ⟨hz, k _ h' _ g' fz' ρ' T X (.int _ _ trivial) (R'.up (Nat.le_succ _))⟩
theorem TE_imeth {o : Expr} {name : Str} {apos pos : Pos} {a0 : Expr} {args : List Expr} {xs : List V} {r : V} (h1 : TE c e vars H (eval o e.env) (.obj i) H) (hi : H[i]? = some (.inst j)) (hj : H[j]? = some (.idict mx)) (hlk : ∀ (es : List DictEntry) (nn : Nat), (mx.isSome = true → ∃ hh t xv, es = [⟨hh, .str (Str.ofString "_headers") t, xv⟩]) → (mx.isSome = false → es = []) → getL name es = some none)
    (hg : plainGet (top0.heap_1 c.w.params) 286 name = true) (hf : findIn (top0.heap_1 c.w.params) (.ref 286) name = some (some (.ref f))) (ht : isFn (top0.heap_1 c.w.params) (.ref f) = true) (hk : Kept c (.ref f))
    (ha : TEs c e vars H (spliced (backTo pos (starEach (a0 :: args) e.env))) xs H2) (hc : PC c e vars H2 (.ref f) (.obj i :: xs) r H3) {pl : Sem Bool}
    (he : eval (.Call (.Attribute o name apos) (a0 :: args) [] pos) e.env = (do
      let ov ← eval o e.env
      standAt apos.atName
      let (f, first) ← holding [ov] (getMethod ov name pl)
      callWith pos f first (backTo pos (starEach (a0 :: args) e.env)) (backToKw pos (keywordEach [] e.env))))
    (hs : starEach (a0 :: args) e.env = (false, eval a0 e.env) :: starEach args e.env) (hp : (backTo pos (starEach args e.env)).any (·.1) = false) :
    TE c e vars H (eval (.Call (.Attribute o name apos) (a0 :: args) [] pos) e.env) r H3 := fun s fz ys ρ g Q E R k => by
  refine methodCall_KW (pl := pl) (h1 _ _ _ _ _ _ _ R fun ov hh1 tk1 g1 fz1 ρ1 T1 X1 v1 R1 => ?_) he
  obtain ⟨I⟩ := R1.inst hi hj v1
  (refine Exists.elim (R1.fr) fun m F => ?_)
  have v3 := v1
  obtain ⟨ad, dx, es, nn, rfl, hd1, ins, hent⟩ := I
  refine method_inst F R1.gr.X ins hg hf ht (hlk es nn (fun q => by cases mx with | none => exact ft q | some x => (refine e32 hent fun a1 a2 a3 a4 _ => ?_; try clear hent); exact ⟨a1, a2, a3, a4⟩) (fun q => by cases mx with | none => exact hent.1 | some x => exact tf q)) ?_
  show wpAny _ _ (callWith pos (.ref f) [.ref ad] (backTo pos (starEach (a0 :: args) e.env)) []) _ _ _
  rw [hs] at ha ⊢
  refine callWith_of (P := fun h => (top0.heap_1 c.w.params).In h) (by show ((false || (backTo pos (starEach args e.env)).any (·.1)) || false) = false; rw [hp]; rfl) hk ?_
  refine evalArgs_plain ?_
  refine ha _ _ _ _ _ _ _ R1 fun b hh2 tk2 g2 fz2 ρ2 T2 X2 v2 R2 => ⟨R2.In, ?_⟩
  exact hc _ _ _ _ _ _ _ _ R2 (.cons (v3.ext X2) v2) fun v h' tk' g' fz' ρ' T X p R' => k v h' tk' g' fz' ρ' ((T1.trans T2).trans T) ((X1.trans X2).trans X) p R'
theorem TE_imeth0 {o : Expr} {name : Str} {apos pos : Pos} {r : V} (h1 : TE c e vars H (eval o e.env) (.obj i) H) (hi : H[i]? = some (.inst j)) (hj : H[j]? = some (.idict mx)) (hlk : ∀ (es : List DictEntry) (nn : Nat), (mx.isSome = true → ∃ hh t xv, es = [⟨hh, .str (Str.ofString "_headers") t, xv⟩]) → (mx.isSome = false → es = []) → getL name es = some none)
    (hg : plainGet (top0.heap_1 c.w.params) 286 name = true) (hf : findIn (top0.heap_1 c.w.params) (.ref 286) name = some (some (.ref f))) (ht : isFn (top0.heap_1 c.w.params) (.ref f) = true) (hk : Kept c (.ref f))
    (hc : PC c e vars H (.ref f) [.obj i] r H3) {pl : Sem Bool}
    (he : eval (.Call (.Attribute o name apos) [] [] pos) e.env = (do
      let ov ← eval o e.env
      standAt apos.atName
      let (f, first) ← holding [ov] (getMethod ov name pl)
      callWith pos f first (backTo pos (starEach [] e.env)) (backToKw pos (keywordEach [] e.env)))) :
    TE c e vars H (eval (.Call (.Attribute o name apos) [] [] pos) e.env) r H3 := fun s fz ys ρ g Q E R k => by
  refine methodCall_KW (pl := pl) (h1 _ _ _ _ _ _ _ R fun ov hh1 tk1 g1 fz1 ρ1 T1 X1 v1 R1 => ?_) he
  obtain ⟨I⟩ := R1.inst hi hj v1
  (refine Exists.elim (R1.fr) fun m F => ?_)
  have v3 := v1
  obtain ⟨ad, dx, es, nn, rfl, hd1, ins, hent⟩ := I
  refine method_inst F R1.gr.X ins hg hf ht (hlk es nn (fun q => by cases mx with | none => exact ft q | some x => (refine e32 hent fun a1 a2 a3 a4 _ => ?_; try clear hent); exact ⟨a1, a2, a3, a4⟩) (fun q => by cases mx with | none => exact hent.1 | some x => exact tf q)) ?_
  show wpAny _ _ (callWith pos (.ref f) [.ref ad] [] []) _ _ _
  refine callWith_of (P := fun h => (top0.heap_1 c.w.params).In h) rfl hk (evalArgs_nil3 ⟨R1.In, ?_⟩)
  exact hc _ _ _ _ _ _ _ _ R1 (.cons v3 .nil) fun v h' tk' g' fz' ρ' T X p R' => k v h' tk' g' fz' ρ' (T1.trans T) (X1.trans X) p R'
theorem TE_imethK {o : Expr} {name kn : Str} {apos pos : Pos} {a0 kx : Expr} {x y r : V} (h1 : TE c e vars H (eval o e.env) (.obj i) H) (hi : H[i]? = some (.inst j)) (hj : H[j]? = some (.idict mx)) (hlk : ∀ (es : List DictEntry) (nn : Nat), (mx.isSome = true → ∃ hh t xv, es = [⟨hh, .str (Str.ofString "_headers") t, xv⟩]) → (mx.isSome = false → es = []) → getL name es = some none)
    (hg : plainGet (top0.heap_1 c.w.params) 286 name = true) (hf : findIn (top0.heap_1 c.w.params) (.ref 286) name = some (some (.ref f))) (ht : isFn (top0.heap_1 c.w.params) (.ref f) = true) (hk : Kept c (.ref f))
    (ha : TE c e vars H (eval a0 e.env) x H2) (hb : TE c e vars H2 (eval kx e.env) y H2) (h : MeetsA c.w lv n (.ref f) (fun vs => ⟨vs.take 2, [kn].zip (vs.drop 2)⟩) [.obj i, x, y] H2 r H3) (hn : n ≤ c.n) (hr : Room c lv) {pl : Sem Bool} {kws : List Keyword}
    (he : eval (.Call (.Attribute o name apos) [a0] kws pos) e.env = (do
      let ov ← eval o e.env
      standAt apos.atName
      let (f, first) ← holding [ov] (getMethod ov name pl)
      callWith pos f first (backTo pos (starEach [a0] e.env)) (backToKw pos (keywordEach kws e.env))))
    (hs : starEach [a0] e.env = [(false, eval a0 e.env)]) (hkw : backToKw pos (keywordEach kws e.env) = [(some kn, do let v ← eval kx e.env; standAt pos; pure v)]) :
    TE c e vars H (eval (.Call (.Attribute o name apos) [a0] kws pos) e.env) r H3 := fun s fz ys ρ g Q E R k => by
  refine methodCall_KW (pl := pl) (h1 _ _ _ _ _ _ _ R fun ov hh1 tk1 g1 fz1 ρ1 T1 X1 v1 R1 => ?_) he
  obtain ⟨I⟩ := R1.inst hi hj v1
  (refine Exists.elim (R1.fr) fun m F => ?_)
  have v3 := v1
  obtain ⟨ad, dx, es, nn, rfl, hd1, ins, hent⟩ := I
  refine method_inst F R1.gr.X ins hg hf ht (hlk es nn (fun q => by cases mx with | none => exact ft q | some x => (refine e32 hent fun a1 a2 a3 a4 _ => ?_; try clear hent); exact ⟨a1, a2, a3, a4⟩) (fun q => by cases mx with | none => exact hent.1 | some x => exact tf q)) ?_
  dsimp only
  rw [hs, hkw]
  refine callWith_of (P := fun h => (top0.heap_1 c.w.params).In h) rfl hk ?_
  refine evalArgs_kw rfl ?_
  refine spliced_cons (ha _ _ _ _ _ _ _ R1 fun b hh2 tk2 g2 fz2 ρ2 T2 X2 v2 R2 => spliced_nil ?_)
  refine wpAny_evalAll_cons (wpAny_bind (hb _ _ _ _ _ _ _ R2 fun d hh4 tk4 g4 fz4 ρ4 T4 X4 v4 R4 => wpAny_bind (wpAny_standAt (wpAny_pure (wpAny_evalAll_nil ⟨R4.In, ?_⟩)))))
  exact meets_here h hn hr R4 (.cons ((v3.ext X2).ext X4) (.cons (v2.ext X4) (.cons v4 .nil))) fun v h' tk' g' fz' ρ' T X p R' => k v h' tk' g' fz' ρ' (((T1.trans T2).trans T4).trans T) (((X1.trans X2).trans X4).trans X) p R'
end
end Mine
end

section
open PySem PySem.W PyProof.Rows PySem.Calls PyProof.Rows.LCg
set_option Elab.async false
set_option linter.all false
set_option maxRecDepth 100000
set_option maxHeartbeats 1000000
namespace Mine
variable {c : Amb} {e : Sc} {vars vars' vars'' : Vars} {H H1 H2 H3 : List MO}

theorem PC_make {lv n : Nat} {xs : List V} (hm : makesIn (top0.heap_1 c.w.params) 286 = true) (hi : findIn (top0.heap_1 c.w.params) (.ref 286) (Str.ofString "__init__") = some (some (.ref 178))) (hf : isFn (top0.heap_1 c.w.params) (.ref 178) = true)
    (h : Meets c.w lv n (.ref 178) (.obj (H.length + 1) :: xs) (H ++ [.idict none] ++ [.inst H.length]) .none H1) (hn : n ≤ c.n) (hr : Room c (lv + 1)) (hen : H.length + 1 < H1.length) : PC c e vars H (.ref 286) xs (.obj (H.length + 1)) H1 := fun vs s fz ys ρ g Q E R hv k => by
  obtain ⟨m, os, ls, l, o, ff⟩ := R.ex
  have hlen : ρ.length = H.length := o.lenH.symm
  let code : Code := .builtin "type.__call__" ⟨.ref 286 :: vs, []⟩
  let c' : Amb := { c with dp := c.dp + code.weight, un := c.un + code.cUnits, gd := pushGuards code.guards c.gd }
  have hA : c.A.under code = c'.A := rfl
  have hw : code.weight ≤ 1 := Nat.le_of_ble_eq_true (by with_unfolding_all rfl)
  have hu : code.cUnits ≤ 4 := Nat.le_of_ble_eq_true (by with_unfolding_all rfl)
  refine call_cls l.F R.gr.X l.N hm hi hf fun x dx h' F' N' hlt hlt2 => ?_
  have fixed : ∀ p ∈ ls ++ (ρ.zip os ++ ys) ++ fz, p.1 ≠ dx ∧ p.1 ≠ x := fun p hp => ⟨Nat.ne_of_lt (hlt p hp), Nat.ne_of_lt (Nat.lt_trans (hlt p hp) hlt2)⟩
  have l1 : Led c.L g h' m fz ((x, instObj 286 dx) :: (dx, dictOf [] 0) :: (ls ++ (ρ.zip os ++ ys))) := by
    refine ⟨F', N', ?_, fun p hp hm2 => ?_⟩
    · simp only [List.map_cons]
      refine List.nodup_cons.mpr ⟨fun q => ?_, List.nodup_cons.mpr ⟨fun q => ?_, l.nd⟩⟩
      · (refine Or.elim (List.mem_cons.mp q) (fun q => ?_) (fun q => ?_))
        · exact Nat.ne_of_gt hlt2 q
        · (refine e12 (List.mem_map.mp q) fun p hp e1 => ?_)
          exact (fixed p (List.mem_append_left _ hp)).2 e1
      · (refine e12 (List.mem_map.mp q) fun p hp e1 => ?_)
        exact (fixed p (List.mem_append_left _ hp)).1 e1
    · simp only [List.map_cons] at hm2
      (refine Or.elim (List.mem_cons.mp hm2) (fun q => ?_) (fun q => ?_))
      · exact (fixed p (List.mem_append_right _ hp)).2 q
      · (refine Or.elim (List.mem_cons.mp q) (fun q => ?_) (fun q => ?_))
        · exact (fixed p (List.mem_append_right _ hp)).1 q
        · exact l.ap p hp q
  have X1 : Ext fz fz ρ (ρ ++ [dx]) := Ext.snoc
  have X2 : Ext fz fz (ρ ++ [dx]) (ρ ++ [dx] ++ [x]) := Ext.snoc
  have R1 : Rep c e vars (H ++ [.idict none] ++ [.inst H.length]) fz (ρ ++ [dx] ++ [x]) ys g h' s.toks := by
    refine ⟨R.gr, R.lo, R.env, m, os ++ [dictOf [] 0] ++ [instObj 286 dx], ls, l1.perm ?_, (o.snoc .idict0 (fun es he => by cases he)).snoc (.inst (by simp [← hlen])) (fun es he => by cases he), Rep.fm_ext ff (X1.trans X2)⟩
    rw [List.zip_append (by simp [o.len]), List.zip_append o.len.symm]
    show ((x, instObj 286 dx) :: (dx, dictOf [] 0) :: (ls ++ (ρ.zip os ++ ys))).Perm (ls ++ ((ρ.zip os ++ [(dx, dictOf [] 0)] ++ [(x, instObj 286 dx)]) ++ ys))
    have p1 : ((x, instObj 286 dx) :: (dx, dictOf [] 0) :: (ls ++ (ρ.zip os ++ ys))).Perm (ls ++ (ρ.zip os ++ ((x, instObj 286 dx) :: (dx, dictOf [] 0) :: ys))) := by
      have := List.perm_append_comm (l₁ := [(x, instObj 286 dx), (dx, dictOf [] 0)]) (l₂ := ls ++ ρ.zip os)
      have := this.append_right ys
      simpa [List.append_assoc] using this
    refine p1.trans (List.Perm.append_left _ ?_)
    simp only [List.append_assoc]
    refine List.Perm.append_left _ ?_
    exact List.Perm.swap _ _ _
  have ok := R.gr.ok
  have hG : Gr c' g := ⟨⟨ok.XB, ok.TB, ok.hk, ok.n1, Nat.le_trans ok.d1 (Nat.le_add_right _ _), Nat.le_trans ok.d3 (Nat.le_add_right _ _)⟩, R.gr.B, R.gr.D⟩
  obtain ⟨m2, os2, ls2, l2, o2, ff2⟩ := R1.ex
  have p : ∀ (A : Lg), (ls2 ++ (A ++ ys)).Perm (A ++ (ls2 ++ ys)) := fun A => perm_sw _ _ _
  have hxv : VRs fz (ρ ++ [dx] ++ [x]) (.ref x :: vs) (.obj (H.length + 1) :: xs) := .cons (.obj (by simp [← hlen])) (hv.ext (X1.trans X2))
  rw [hA]
  refine codeAny_with_toks (Nat.le_refl s.toks) (codeAny_mono (h c' { s with heap := h' } m2 fz (ls2 ++ ys) (ρ ++ [dx] ++ [x]) os2 g (.ref x :: vs) (fun v s' => v = .none ∧ (s.toks ≤ s'.toks → Q (.ref x) s')) E rfl hG (Nat.le_trans hn R.lo)
    ⟨by show c.dp + code.weight + lv < _; have := hr.dp; lia, by show c.un + code.cUnits + 8 * lv + 64 < _; have := hr.un; lia⟩ (l2.perm (p _)) o2 hxv fun v h3 tk3 g3 fz3 ρ3 os3 T3 G3 X3 l3 o3 hv3 => ?_) fun r s' hr2 => ?_)
  · cases hv3
    refine ⟨rfl, fun hle => ?_⟩
    have hx3 : ρ3[H.length + 1]? = some x := X3.pre _ _ (by simp [← hlen])
    exact k (.ref x) h3 tk3 g3 fz3 ρ3 T3 ((X1.trans X2).trans X3) (.obj hx3) ⟨⟨ok, G3.B, G3.D⟩, Nat.le_trans R.lo hle, R.env, m2, os3, ls2, l3.perm (p _).symm, o3, Rep.fm_ext ff2 X3⟩
  · rcases r with er | (v | _ | _ | _)
    all_goals first
      | exact fun _ => hr2
      | exact fun _ => hr2.elim
      | skip
    exact fun hle => ⟨hr2.1, hr2.2 hle⟩

theorem Rep.updL {fz ys : Lg} {ρ : List Addr} {g h : Heap} {tk : Nat} (R : Rep c e vars H fz ρ ys g h tk) {i : Nat} {xs : List V} {v : Value} (q : H[i]? = some (.list xs)) (hv : VR fz ρ v (.obj i)) :
    ∃ a vs n, v = .ref a ∧ ρ[i]? = some a ∧ h.get? a = some (lstO vs n) ∧ VRs fz ρ vs xs ∧ ∀ (f : Array Value → Array Value) (vs' : List Value) (xs' : List V), f vs.toArray = vs'.toArray → VRs fz ρ vs' xs' → Rep c e vars (H.set i (.list xs')) fz ρ ys g (h.update a (Obj.mapSeq f)) tk := by
  induction hv using VR.objE with
  | k ha =>
    (refine e23 (R.get q) fun a' o h1 h2 h3 => ?_)
    rw [ha] at h1; (replace h1 := Option.some.inj h1; subst h1)
    cases h3 with
    | list hr =>
      refine ⟨_, _, _, rfl, ha, h2, hr, fun f vs' xs' hf hr' => ?_⟩
      refine R.update ha (Heap.SameBut.update ..) (Heap.get?_update_self _ h2 rfl) ?_
      show ObjR c.w fz ρ ({ cls := .type "list", dict := none, data := .seq (f _) _, slots := #[] } : Obj) _
      rw [hf]
      exact .list hr'
theorem PC_pop {i : Nat} {xs : List V} {x : V} (q : H[i]? = some (.list (xs ++ [x]))) (hl : xs.length + 1 ≤ sizeLine) : PC c e vars H (.builtin "list.pop") [.obj i] x (H.set i (.list xs)) := fun vs s fz ys ρ g Q E R hv k => by
  induction hv using VRs.consE with
  | k ha hnil =>
    induction hnil using VRs.nilE
    (refine e35 (R.updL q ha) fun a vs n q26_ h1 h2 hr up => ?_; subst q26_)
    (refine e23 (VRs.split hr) fun v1 v2 q27_ r1 r2 => ?_; subst q27_)
    induction r2 using VRs.consE with
    | k hx r2 =>
      induction r2 using VRs.nilE
      rename_i y _
      have hlen : v1.length = xs.length := r1.length
      have hsz : (v1 ++ [y]).toArray.size - 1 = v1.length := by simp
      refine call_meets F.slot_list_pop ⟨_, h2, rfl⟩ F.entry_list_pop (F.args_list_pop_1 _) (MeetsSeq.list_pop_last a (v1 ++ [y]).toArray n y (by rw [hsz]; simp) (by rw [List.size_toArray, List.length_append, hlen]; exact hl)) ⟨h2, ?_⟩
      rw [hsz]
      refine k y _ s.toks g fz ρ KtsTurn.refl Ext.refl hx (up (fun xs => xs.eraseIdxIfInBounds v1.length) v1 xs ?_ r1)
      simp [Array.eraseIdxIfInBounds]
      rw [List.eraseIdx_append_of_length_le (Nat.le_refl _)]
      simp
theorem PC_extend {i : Nat} {xs zs : List V} (q : H[i]? = some (.list xs)) (hl : xs.length + zs.length ≤ 1000) : PC c e vars H (.builtin "list.extend") [.obj i, .lst zs] .none (H.set i (.list (xs ++ zs))) := fun vs s fz ys ρ g Q E R hv k => by
  induction hv using VRs.consE with
  | k ha hv2 =>
    induction hv2 using VRs.consE with
    | k hb hnil =>
      induction hnil using VRs.nilE
      (refine e35 (R.updL q ha) fun a vs n q28_ h1 h2 hr up => ?_; subst q28_)
      induction hb using VR.lstE with
      | k hm hz =>
        rename_i b ws n2
        have hl1 : vs.length = xs.length := hr.length
        have hl2 : ws.length = zs.length := hz.length
        have hsz : vs.toArray.size + ws.toArray.size ≤ 1000 := by rw [List.size_toArray, List.size_toArray]; lia
        have hd : ¬(!vs.toArray.isEmpty && Builtin.List.listTooLong (vs.toArray.size + ws.toArray.size)) = true := extend_door (by rw [sizeLine_eq]; lia)
        refine call_meets F.slot_list_extend ⟨_, h2, rfl⟩ F.entry_list_extend (F.args_list_extend_2 _ _) (AutoSeq1.list_extend_list_list_0 a vs.toArray n b ws.toArray n2 hd (by rw [sizeLine_eq]; lia) (by rw [sizeLine_eq]; lia)) ⟨h2, R.getF hm, ?_⟩
        exact k .none _ s.toks g fz ρ KtsTurn.refl Ext.refl .none (up (fun x => x ++ ws.toArray) (vs ++ ws) (xs ++ zs) (by simp) (hr.append hz))
theorem PC_append {i : Nat} {xs : List V} {x : V} (q : H[i]? = some (.list xs)) (hl : xs.length ≤ 1000) : PC c e vars H (.builtin "list.append") [.obj i, x] .none (H.set i (.list (xs ++ [x]))) := fun vs s fz ys ρ g Q E R hv k => by
  induction hv using VRs.consE with
  | k ha hv2 =>
    induction hv2 using VRs.consE with
    | k hb hnil =>
      induction hnil using VRs.nilE
      (refine e35 (R.updL q ha) fun a vs n q29_ h1 h2 hr up => ?_; subst q29_)
      rename_i y _
      refine call_meets F.slot_list_append ⟨_, h2, rfl⟩ F.entry_list_append (F.args_list_append_2 _ _) (PySem.list_append a vs.toArray n y (by rw [List.size_toArray, hr.length, sizeLine_eq]; lia)) ⟨h2, ?_⟩
      exact k .none _ s.toks g fz ρ KtsTurn.refl Ext.refl .none (up (fun x_1 => x_1.push y) (vs ++ [y]) (xs ++ [x]) (by simp) (hr.append (.cons hb .nil)))
theorem IsPart_of {i : Option Int} {t : Tok} : IsPart (pv i t) i := by cases i <;> first | exact .none | exact .int _ _
theorem PSl_lst1 {value lower upper} {p : Pos} {xs : List V} (hsz : xs.length ≤ sizeLine) (hn : 1 ≤ xs.length) (ht : ∀ a r, letTemporaryGo value (.ref a) r = pure ()) : PSl c e vars H value (.Slice lower upper none p) (.lst xs) (some 1) none (.lst (xs.drop 1)) := fun a vl vu t u s fz ys ρ g Q E R ha e1 e2 k => by
  induction ha using VR.lstE with
  | k hm hr =>
    rename_i a vs n
    (refine e25 (R.openN) fun m news F' N' _ _ ad => ?_)
    subst e1 e2
    refine slice_list (lo := some 1) (hi := none) F' N' ⟨_, R.getF hm, rfl, n, rfl⟩ IsPart_of IsPart_of (fun h' F2 N2 => ?_) (by rfl) (ht _) (by rw [List.size_toArray, hr.length]; exact hsz)
    have e3 : slicePick vs.toArray (some 1) none none = (vs.drop 1).toArray := by
      have := slicePick_from vs.toArray 1 (by rw [List.size_toArray, hr.length]; lia)
      simpa using this
    rw [e3] at N2
    have R2 := (ad h' (s.heap.objs.size + 1) (lstO (vs.drop 1) 0) F2 N2 fun p hp => Nat.lt_succ_of_lt (Heap.lt_size (N' p hp).1))
    exact k _ h' s.toks g _ ρ KtsTurn.refl Ext.cons (.lst (.head _) ((hr.drop 1).ext Ext.cons)) R2
theorem slice_all_K {value : Expr} {lower upper : Option Expr} {p : Pos} {i : Nat} {xs : List V} {a vl vu : Value} {t u : Tok} {s : Shared} {fz ys : Lg} {ρ : List Addr} {g : Heap} {Q : Value → Shared → Prop} {E : Value → Shared → Prop}
    (R : Rep c e vars H fz ρ ys g s.heap s.toks) (q : H[i]? = some (.list xs)) (ha : VR fz ρ a (.obj i)) (hsz : xs.length ≤ sizeLine) (e1 : vl = pv none t) (e2 : vu = pv none u)
    (k : ∀ (v : Value) (h' : Heap) (tk' : Nat) (g' : Heap) (fz' : Lg) (ρ' : List Addr), KtsTurn c.fs g g' → Ext fz fz' ρ ρ' → VR fz' ρ' v (.obj H.length) → Rep c e vars (H ++ [.list xs]) fz' ρ' ys g' h' tk' → Q v { s with heap := h', toks := tk' }) :
    wpAny c.M c.A (subscriptTail value (.Slice lower upper none p) a (.ref s.heap.objs.size)) Q E { s with heap := s.heap.push { cls := .type "slice", data := .fields #[vl, vu, .none] } } := by
  (refine e35 (R.updL q ha) fun ad vs n q30_ h1 h2 hr up => ?_; subst q30_)
  (refine Exists.elim (R.fr) fun m F' => ?_)
  obtain ⟨m2, os, xs2, l, o, ff⟩ := R.ex
  subst e1 e2
  have hl : s.heap.IsList ad vs.toArray := ⟨_, h2, rfl, n, rfl⟩
  refine tail_any (Heap.IsList.typeIs (s := { s with heap := s.heap.push { cls := .type "slice", data := .fields #[.none, .none, .none] } }) (hl.push _)) list_getitem_lookup
    (wpAny_getItem_list_slice (hl.push _) (Heap.IsSliceOf.new ..) IsPart.none IsPart.none .none (by simp) ?_ (by rw [List.size_toArray, hr.length]; exact hsz)) (by rfl)
  have e3 : slicePick vs.toArray none none none = vs.toArray := slicePick_all _
  rw [e3]
  have R2 := (R.push { cls := .type "slice", data := .fields #[.none, .none, .none] }).allocM (o := lstO vs 0) (mo := .list xs) (.list (hr.ext Ext.snoc)) rfl
  have hlen : ρ.length = H.length := o.lenH.symm
  exact k _ _ s.toks g fz _ KtsTurn.refl Ext.snoc (.obj (by rw [← hlen]; simp)) R2
theorem TE_sliceO {value : Expr} {p pos : Pos} {i : Nat} {xs : List V} (h1 : TE c e vars H (eval value e.env) (.obj i) H1) (q : H1[i]? = some (.list xs)) (hsz : xs.length ≤ sizeLine) :
    TE c e vars H (eval (.Subscript value (.Slice none none none p) pos) e.env) (.obj H1.length) (H1 ++ [.list xs]) := fun s fz ys ρ g Q E R k => by
  refine Subscript_ (h1 _ _ _ _ _ _ _ R fun a hh1 tk1 g1 fz1 ρ1 T1 X1 v1 R1 => ?_)
  refine wpAny_Slice (wpAny_pure (wpAny_pure (wpAny_pure ?_)))
  exact slice_all_K (s := { s with heap := hh1, toks := tk1 }) (t := 0) (u := 0) R1 q v1 hsz rfl rfl fun v h' tk' g' fz' ρ' T X p' R' => k v h' tk' g' fz' ρ' (T1.trans T) (X1.trans X) p' R'
theorem PO_addL {i : Nat} {xs zs : List V} (q : H[i]? = some (.list xs)) (hl : xs.length + zs.length ≤ 1000) : PO c e vars H (binaryOp .Add) (.obj i) (.lst zs) (.obj H.length) (H ++ [.list (xs ++ zs)]) := fun a b s fz ys ρ g Q E R ha hb k => by
  (refine e35 (R.updL q ha) fun ad vs n q31_ h1 h2 hr up => ?_; subst q31_)
  induction hb using VR.lstE with
  | k hm hz =>
    rename_i b ws n2
    obtain ⟨m2, os, xs2, l, o, ff⟩ := R.ex
    have hlen : ρ.length = H.length := o.lenH.symm
    refine P.add_list (items := vs.toArray) (items2 := ws.toArray) (n := n) (n2 := n2) h2 (R.getF hm) ?_ (by rw [List.size_toArray, List.size_toArray, hr.length, hz.length, sizeLine_eq]; lia)
    have e3 : vs.toArray ++ ws.toArray = (vs ++ ws).toArray := by simp
    rw [e3]
    exact k _ _ s.toks g fz _ KtsTurn.refl Ext.snoc (.obj (by rw [← hlen]; simp)) (R.allocM (o := lstO (vs ++ ws) 0) (mo := .list (xs ++ zs)) (.list ((hr.append hz).ext Ext.snoc)) rfl)
theorem PO_itemO' {value slice : Expr} {qq : Tok → Prop} {n : Nat} {xs : List V} {j : Nat} {i : Int} {x : V} (hH : H[n]? = some (.list xs)) (hi : i = (j : Int)) (hx : xs[j]? = some x) (hj : j < 1000000)
    (hs : ∀ a t, subscripted slice false (.ref a) (.int i t) = operate [.ref a, .int i t] (getItem (.ref a) (.int i t))) : PO c e vars H (subscriptTail value slice) (.obj n) (.intP i qq) x H := PO_itemO hH hi hx hj hs

theorem nodup_get {α : Type} : ∀ {l : List α}, l.Nodup → ∀ {i j : Nat} {a : α}, l[i]? = some a → l[j]? = some a → i = j
  | [], _, i, _, _, h, _ => by simp at h
  | x :: r, hn, 0, 0, _, _, _ => rfl
  | x :: r, hn, 0, j + 1, a, h, h2 => by
    simp at h h2; subst h
    exact absurd (List.mem_of_getElem? h2) (List.nodup_cons.mp hn).1
  | x :: r, hn, i + 1, 0, a, h, h2 => by
    simp at h h2; subst h2
    exact absurd (List.mem_of_getElem? h) (List.nodup_cons.mp hn).1
  | x :: r, hn, i + 1, j + 1, a, h, h2 => by
    simp at h h2
    exact congrArg (· + 1) (nodup_get (List.nodup_cons.mp hn).2 h h2)
noncomputable def V.notNone : V → Bool
  | .obj _ | .intP _ _ | .strP _ _ | .tup _ | .lst _ | .lstC _ | .bool _ => true
  | _ => false
theorem PO_isnNN {x : V} (hx : x.notNone = true) : PO c e vars H (compareOp .IsNot) x .none (.bool true) H := fun a b s fz ys ρ g Q E R ha hb k => by
  cases hb
  show wpAny _ _ (do return Value.bool (!(← isSame a .none))) _ _ _
  rw [isSame_none]
  have : (a == Value.none) = false := by cases ha <;> first | rfl | (exact ft hx; done)
  rw [this]
  exact wpAny_pure (k _ s.heap s.toks g fz ρ KtsTurn.refl Ext.refl (.bool _) R)
theorem PO_isnN : PO c e vars H (compareOp .IsNot) .none .none (.bool false) H := fun a b s fz ys ρ g Q E R ha hb k => by
  cases ha; cases hb
  show wpAny _ _ (do return Value.bool (!(← isSame .none .none))) _ _ _
  rw [isSame_none]
  exact wpAny_pure (k _ s.heap s.toks g fz ρ KtsTurn.refl Ext.refl (.bool _) R)
theorem PO_isT {p q : String} {b : Bool} (hb : decide (p = q) = b) : PO c e vars H (compareOp .Is) (.con (.type p)) (.con (.type q)) (.bool b) H := fun a d s fz ys ρ g Q E R ha hd k => by
  cases ha; cases hd
  show wpAny _ _ (do return Value.bool (← isSame (.type p) (.type q))) _ _ _
  refine wpAny_bind (wpAny_of_eq (a := b) ?_ (wpAny_pure (k _ s.heap s.toks g fz ρ KtsTurn.refl Ext.refl (.bool _) R)))
  show (pure (Value.type p == Value.type q) : Sem Bool) = pure b
  congr 1
  rw [← hb]
  by_cases h : p = q
  · subst h; simp
  · have : Value.type p ≠ Value.type q := fun z => h (by injection z)
    simp [h, this]
theorem PO_isnT {p q : String} {b : Bool} (hb : decide (p = q) = !b) : PO c e vars H (compareOp .IsNot) (.con (.type p)) (.con (.type q)) (.bool b) H := fun a d s fz ys ρ g Q E R ha hd k => by
  cases ha; cases hd
  show wpAny _ _ (do return Value.bool (!(← isSame (.type p) (.type q)))) _ _ _
  refine wpAny_bind (wpAny_of_eq (a := !b) ?_ (wpAny_pure ?_))
  · show (pure (Value.type p == Value.type q) : Sem Bool) = pure (!b)
    congr 1
    rw [← hb]
    by_cases h : p = q
    · subst h; simp
    · have : Value.type p ≠ Value.type q := fun z => h (by injection z)
      simp [h, this]
  · rw [Bool.not_not]; exact k _ s.heap s.toks g fz ρ KtsTurn.refl Ext.refl (.bool _) R
theorem PO_isnL {i j : Nat} {xs zs : List V} (hi : H[i]? = some (.list xs)) (hj : H[j]? = some (.list zs)) (hij : i ≠ j) : PO c e vars H (compareOp .IsNot) (.obj i) (.obj j) (.bool true) H := fun a b s fz ys ρ g Q E R ha hb k => by
  obtain ⟨m, os, ls, l, o, ff⟩ := R.ex
  (refine e35 (R.updL hi ha) fun ax vs n q32_ h1 h2 hr _ => ?_; subst q32_)
  (refine e35 (R.updL hj hb) fun ay ws n2 q33_ g1 g2 hr2 _ => ?_; subst q33_)
  have nd := l.nodupR o.len
  have hne : ax ≠ ay := fun z => by
    subst z
    exact hij (nodup_get nd h1 g1)
  exact wpAny_isNot_ref_other hne h2 g2 (fun z => absurd (Value.type.inj z) (by decide)) (k _ s.heap s.toks g fz ρ KtsTurn.refl Ext.refl (.bool _) R)
theorem PC_typeL {i : Nat} {xs : List V} (hi : H[i]? = some (.list xs)) : PC c e vars H (.type "type") [.obj i] (.con (.type "list")) H := fun vs s fz ys ρ g Q E R hv k => by
  induction hv using VRs.consE with
  | k ha hnil =>
    induction hnil using VRs.nilE
    (refine e35 (R.updL hi ha) fun ax vs n q34_ h1 h2 hr _ => ?_; subst q34_)
    obtain ⟨hh, gg, d, t, os⟩ := s
    exact call_type_obj h2 (by show (Value.type "list" == Value.type "builtin_function_or_method") = false; decide +kernel) (k _ hh t g fz ρ KtsTurn.refl Ext.refl (.con _) R)
end Mine
end

section
open PySem PySem.W PyProof.Rows PySem.Calls PyProof.Rows.LCg
set_option Elab.async false
set_option linter.all false
set_option maxRecDepth 100000
set_option maxHeartbeats 1000000
namespace Mine
variable {c : Amb} {e : Sc} {vars vars' vars'' : Vars} {H H1 H2 H3 : List MO}

theorem setItem_list_all {prog : Program} {w : World} {A : Around} {E : Value → Shared → Prop} {s : Shared} {l sl b : Addr} {its its2 : Array Value} {n n2 : Nat} {Q : Unit → Shared → Prop} (hl : IsL s.heap l its n) (hb : IsL s.heap b its2 n2) (hne : (l == b) = false)
    (hs : s.heap.IsSliceOf sl .none .none .none) (hsz : its.size + its2.size ≤ 1000) (h : Q () { s with heap := s.heap.update l (Obj.mapSeq fun xs => xs.extract 0 0 ++ its2 ++ xs.extract its.size) }) :
    wpAny (model prog w) A (setItem (.ref l) (.ref sl) (.ref b)) Q E s := by
  (refine e13 (id hs) fun os hos hcs hds => ?_)
  have hTl : s.TypeIs (.ref l) "list" := ⟨_, hl, rfl⟩
  have hTb : s.TypeIs (.ref b) "list" := ⟨_, hb, rfl⟩
  have hTs : s.TypeIs (.ref sl) "slice" := ⟨os, hos, hcs⟩
  unfold setItem
  refine wpAny_holding ?_
  refine wpAny_bind (wpAny_sequenceKey hTl (by decide) ?_)
  refine wpAny_bind (wpAny_callSpecial?_slot (name := Str.ofString "__setitem__") hTl F.slot_list_setitem
    (wpAny_call_entry F.slot_list_setitem hTl F.entry_list_setitem ?_ (F.args_list_setitem_3 _ _ _)))
  show wpAny _ _ (Builtin.List.listSubscript? (.ref sl) >>= _) _ _ s
  refine wpAny_bind ?_
  unfold Builtin.List.listSubscript?
  refine wpAny_bind (wpAny_specialOf hTs slice_no_index ?_)
  simp only [Option.isNone_none, if_true]
  refine wpAny_pure ?_
  show wpAny _ _ (typeOf (.ref sl) >>= _) _ _ s
  refine wpAny_bind (wpAny_typeOf hTs ?_)
  rw [if_neg (by decide)]
  rw [listSliceParts_eq]
  have hstep : ¬ ((rawPart none == rawInt 0) = true) := Bool.false_ne_true
  refine wpAny_bind (wpAny_bind (wpAny_field hos hds (x := .none) rfl (wpAny_bind (wpAny_listPart .none ?_))))
  rw [if_neg hstep]
  refine wpAny_bind (wpAny_field hos hds (x := .none) rfl (wpAny_bind (wpAny_listPart .none ?_)))
  refine wpAny_bind (wpAny_field hos hds (x := .none) rfl (wpAny_bind (wpAny_listPart .none (wpAny_pure ?_))))
  have hsame : ¬ (Builtin.List.listSameRef (.ref l) (.ref b) = true) := by show ¬ ((l == b) = true); rw [hne]; exact Bool.false_ne_true
  rw [if_neg hsame]
  refine wpAny_bind ?_
  unfold Builtin.List.listAllItems
  refine wpAny_bind (wpAny_typeOf hTb ?_)
  rw [if_pos (by decide)]
  unfold Builtin.List.listItems
  refine wpAny_bind (wpAny_seqItems hb rfl (wpAny_pure ?_))
  refine wpAny_bind ?_
  refine wpAny_bind (wpAny_seqItems hl rfl (wpAny_pure ?_))
  refine wpAny_bind (wpAny_of_eq (sliceIndices_raw none none none its.size (by simp)) ?_)
  show wpAny _ _ (rule _ >>= _) _ _ s
  refine wpAny_bind (wpAny_rule ?_)
  have hlong : Builtin.List.listTooLong (its.size + its2.size) = false := by unfold Builtin.List.listTooLong; rw [sizeLine_eq]; simp; lia
  show wpAny _ _ ((if Builtin.List.listTooLong (its.size + its2.size) = true then _ else _)) _ _ s
  rw [if_neg (by rw [hlong]; exact Bool.false_ne_true)]
  refine wpAny_bind (m := updateSeq l _) ?_
  have e1 : (sliceBounds none none none its.size).1.toNat = 0 := rfl
  have e2 : (max (sliceBounds none none none its.size).1 (sliceBounds none none none its.size).2.1).toNat = its.size := by
    show (max (0 : Int) (its.size : Int)).toNat = _
    lia
  simp only [e1, e2]
  refine wpAny_updateSeq hl rfl (hz := by rw [sizeLine_eq]; lia) (_hz' := by
    simp only [Array.size_append, Array.size_extract]; rw [sizeLine_eq]; lia) (wpAny_bind (wpAny_letGo (wpAny_pure ⟨.none, rfl, wpAny_pure h⟩)))
theorem TS1_setall {o value : Expr} {sp spos pos : Pos} {i : Nat} {xs zs : List V} (h0 : TE c e vars H (eval value e.env) (.lst zs) H1) (h1 : TE c e vars H1 (eval o e.env) (.obj i) H1) (q : H1[i]? = some (.list xs)) (hl : xs.length + zs.length ≤ 1000)
    (hsw : swapsWith value (some (.Subscript o (.Slice none none none sp) spos)) pos.line e.env = pure false) : TS1 c e vars H (.Assign [.Subscript o (.Slice none none none sp) spos] value pos) .next vars (H1.set i (.list zs)) := fun s fz ys ρ g Q E R k => by
  refine wpAny_Assign_Subscript (h0 _ _ _ _ _ _ _ R fun yv hh0 tk0 g0 fz0 ρ0 T0 X0 v0 R0 => ?_) hsw
  refine h1 _ _ _ _ _ _ _ R0 fun ov hh1 tk1 g1 fz1 ρ1 T1 X1 v1 R1 => ?_
  refine wpAny_Slice (wpAny_pure (wpAny_pure (wpAny_pure ?_)))
  have v0' := v0.ext X1
  induction v0' using VR.lstE with
  | k hm hz =>
    rename_i b ws n2
    (refine e35 ((R1.push { cls := .type "slice", data := .fields #[.none, .none, .none] }).updL q v1) fun ad vs n q35_ h1' h2 hr up => ?_; subst q35_)
    have hne : (ad == b) = false := by
      refine beq_eq_false_iff_ne.mpr fun z => ?_
      subst z
      obtain ⟨m, os, ls, l, o, ff⟩ := R1.ex
      have hi : i < os.length := by
        rw [o.len]
        (refine Or.elim (Nat.lt_or_ge i ρ1.length) (fun q => ?_) (fun q => ?_))
        · exact q
        · rw [List.getElem?_eq_none q] at h1'; exact ns h1'
      have hz2 : (ad, os[i]) ∈ ρ1.zip os := zip_mem h1' (by simp [hi])
      exact l.ap _ hm (List.mem_map.mpr ⟨_, List.mem_append_right _ (List.mem_append_left _ hz2), rfl⟩)
    have hb : IsL (hh1.push { cls := .type "slice", data := .fields #[.none, .none, .none] }) b ws.toArray n2 := Heap.get?_push_of_some _ (R1.getF hm)
    have hl1 : vs.length = xs.length := hr.length
    have hl2 : ws.length = zs.length := hz.length
    refine setItem_list_all (its := vs.toArray) (its2 := ws.toArray) (n := n) (n2 := n2) h2 hb hne (Heap.IsSliceOf.new _ _ _ _) (by rw [List.size_toArray, List.size_toArray]; lia) ?_
    exact k .next _ tk1 g1 fz1 ρ1 (T0.trans T1) (X0.trans X1) .next (up _ ws zs (by simp) hz)
theorem PC_typeS {x : Str} {r : Tok → Prop} : PC c e vars H (.type "type") [.strP x r] (.con (.type "str")) H := fun vs s fz ys ρ g Q E R hv k => by
  induction hv using VRs.consE with
  | k ha hnil =>
    induction hnil using VRs.nilE; induction ha using VR.strE
    exact call_type_of (Tx := "str") rfl (by decide +kernel) (k _ s.heap s.toks g fz ρ KtsTurn.refl Ext.refl (.con _) R)
end Mine
end

section
open PySem PySem.W PyProof.Rows PySem.Calls PyProof.Rows.LCg
set_option Elab.async false
set_option linter.all false
set_option maxRecDepth 100000
set_option maxHeartbeats 1000000
namespace Mine
variable {c : Amb} {e : Sc} {vars vars' vars'' : Vars} {H H1 H2 H3 : List MO}
open PySem.Sre

noncomputable def codeN : Array Nat := #[14, 10, 4, 1, 1, 22, 0, 31, 16, 127, 0, 13, 7, 22, 0, 31, 16, 127, 0, 1]
noncomputable def codeV : Array Nat := #[14, 14, 4, 1, 1, 9, 4294966783, 0, 0, 2147483648, 0, 0, 0, 0, 0, 13, 11, 9, 4294966783, 0, 0, 2147483648, 0, 0, 0, 0, 0, 1]
noncomputable def plainCh (k : Nat) : Bool := decide (32 ≤ k) && decide (k < 127)
theorem inSetN {k : Nat} (hk : plainCh k = true) (seen : Sre.Seen) : ∃ s', inSet codeN k codeN.size 5 true seen = .ok (false, s') := by
  have h := Bool.and_eq_true_iff.mp hk
  have h1 := of_decide_eq_true h.1
  have h2 := of_decide_eq_true h.2
  have e1 : (decide (0 ≤ k) && decide (k ≤ 31)) = false := by simp; lia
  have e2 : (k == 127) = false := by simp; lia
  refine ⟨((seen.add 22).add 16).add 0, ?_⟩
  show (if (decide (0 ≤ k) && decide (k ≤ 31)) = true then _ else (if (k == 127) = true then _ else (Except.ok (!true, ((seen.add 22).add 16).add 0)))) = _
  rw [e1, e2]
  rfl
theorem inSetV {k : Nat} (hk : plainCh k = true) (seen : Sre.Seen) : ∃ s', inSet codeV k codeV.size 5 true seen = .ok (false, s') := by
  have h := Bool.and_eq_true_iff.mp hk
  have h1 := of_decide_eq_true h.1
  have h2 := of_decide_eq_true h.2
  have e1 : (decide (k < 256) && (codeV.getD (5 + (1 + k / 32)) 0).testBit (k % 32)) = false := by
    have : ∀ k : Fin 127, 32 ≤ k.val → (codeV.getD (5 + (1 + k.val / 32)) 0).testBit (k.val % 32) = false := by decide
    rw [this ⟨k, h2⟩ h1, Bool.and_false]
  refine ⟨(seen.add 9).add 0, ?_⟩
  show (if (decide (k < 256) && (codeV.getD (5 + (1 + k / 32)) 0).testBit (k % 32)) = true then _ else (Except.ok (!true, (seen.add 9).add 0))) = _
  rw [e1]
  rfl
theorem admitted_none {m : M} (hi : ∀ k seen, plainCh k = true → ∃ s', inSet m.code k m.code.size 5 true seen = .ok (false, s')) (ht : ∀ i, i < m.lim → plainCh (m.text.getD i 0) = true) : ∀ (fuel s : Nat) (seen : Sre.Seen), ∃ s', M.admitted m fuel s seen = .ok (none, s')
  | 0, s, seen => ⟨seen, rfl⟩
  | fuel + 1, s, seen => by
    unfold M.admitted
    by_cases h : s ≥ m.lim
    · rw [if_pos h]; exact ⟨seen, rfl⟩
    · rw [if_neg h]
      (refine Exists.elim (hi (m.text.getD s 0) seen (ht s (Nat.lt_of_not_le h))) fun s' e1 => ?_)
      rw [e1]
      exact admitted_none hi ht fuel (s + 1) s'
noncomputable def Refused (m : M) : Prop := m.answer = some false ∧ m.frames = [] ∧ m.outcome = none
theorem attempt_none {m : M} (hf : m.hasFirstSet = true) (h0 : m.frames = [] ∧ m.outcome = none) (hi : ∀ k seen, plainCh k = true → ∃ s', inSet m.code k m.code.size 5 true seen = .ok (false, s')) (ht : ∀ i, i < m.lim → plainCh (m.text.getD i 0) = true) (s : Nat) (b : Bool) : Refused (m.attemptFrom s b) := by
  unfold M.attemptFrom
  rw [hf]
  simp only [Bool.not_true, Bool.false_eq_true, if_false]
  (refine Exists.elim (admitted_none hi ht (m.lim + 1 - s) s m.seen) fun s' e1 => ?_)
  rw [e1]
  exact ⟨rfl, h0.1, h0.2⟩
theorem search_refused {code : Array Nat} {x : Str} (hc : code = codeN ∨ code = codeV) (hx : x.cps.all plainCh = true) : Refused (forSearch code x.cps 0 0 x.cps.size false) := by
  have ht : ∀ i, i < x.cps.size → plainCh (x.cps.getD i 0) = true := fun i hi => by
    have := Array.all_eq_true.mp hx i hi
    simpa [Array.getD, hi] using this
  (refine Or.elim hc (fun o255_ => ?_) (fun o256_ => ?_); rotate_left 1; try clear hc; subst o256_; rotate_right 1; try clear hc; subst o255_)
  · unfold forSearch
    by_cases h : (decide (0 > x.cps.size) || decide (x.cps.size - 0 < (header codeN).1)) = true
    · rw [if_pos h]; exact ⟨rfl, rfl, rfl⟩
    · rw [if_neg h]
      refine attempt_none ?a ?b ?c ?d _ _ <;> first | rfl | exact ⟨rfl, rfl⟩ | exact fun k seen hk => inSetN hk seen | exact ht
  · unfold forSearch
    by_cases h : (decide (0 > x.cps.size) || decide (x.cps.size - 0 < (header codeV).1)) = true
    · rw [if_pos h]; exact ⟨rfl, rfl, rfl⟩
    · rw [if_neg h]
      refine attempt_none ?a2 ?b2 ?c2 ?d2 _ _ <;> first | rfl | exact ⟨rfl, rfl⟩ | exact fun k seen hk => inSetV hk seen | exact ht
theorem refused_run {m : M} (h : Refused m) : (m.runFor 4).outcome = some .failed := by
  (refine e03 h fun h1 h2 h3 => ?_; try clear h)
  have e1 : m.step = { m with outcome := some .failed } := by
    unfold M.step
    rw [h3, h1, h2]
    rfl
  unfold M.runFor
  rw [h3]
  simp only [Option.isSome_none, Bool.false_eq_true, if_false]
  unfold M.runFor
  rw [e1]
  simp only [Option.isSome_some, if_true]
section
variable {MM : Model} {A : Around} {E : Value → Shared → Prop} {s : Shared}
theorem run_refused {m : M} (h : Refused m) {Q : Option M → Shared → Prop} (hq : Q none s) : wpAny MM A (Builtin.Re.reRunToEnd m) Q E s := by
  have e1 : Builtin.Re.reDrive (2 ^ 64) m = pure (m.runFor 4) := by
    have e2 : (2 ^ 64 : Nat) = 18446744073709551615 + 1 := rfl
    rw [e2]
    unfold Builtin.Re.reDrive
    simp only [Builtin.Re.reTurnSteps, refused_run h, Option.isSome_some, if_true]
  unfold Builtin.Re.reRunToEnd
  refine wpAny_bind (wpAny_of_eq e1 ?_)
  refine wpAny_bind (wpAny_mono (wpAny_forIn_list _ (fun _ _ s' => s' = s) (fun _ s' => s' = s) ?t (fun _ _ h => h) _ _ rfl) ?k fun _ _ q => q)
  case t =>
    (intro x rest b s' q5_; subst q5_)
    split
    · exact wpAny_bind (wpAny_rule (wpAny_pure rfl))
    · exact wpAny_pure rfl
  case k =>
    intro _ s' hs
    subst hs
    rw [refused_run h]
    exact wpAny_pure hq
theorem rawItems_at {a : Addr} {o : Obj} {vs : Array Value} {n : Nat} {Q : Array Int → Shared → Prop} (ho : s.heap.get? a = some o) (hd : o.data = .seq vs n) (hq : Q (vs.map Builtin.Re.reRawOf) s) : wpAny MM A (Builtin.Re.reRawItems (.ref a)) Q E s := by
  unfold Builtin.Re.reRawItems
  exact wpAny_bind (wpAny_seqItems ho hd (wpAny_pure hq))
end
theorem slot_search : Slot "re.Pattern" "search" "re.Pattern.search" :=
  .of (owner := "re.Pattern") (n := "search") (by rw [typeLookup_type, builtinLookup_eq_fast]; kernel_rfl) (by decide +kernel) (by decide +kernel) (by decide +kernel)
    (by first | exact .inl (by decide +kernel) | exact .inr (by decide +kernel)) (by rw [isSubtype_type]; kernel_rfl)
theorem type_search : typeOf (.builtin "re.Pattern.search") = pure (.type "method_descriptor") := by show builtinType _ = _; rw [builtinType_eq_fast]; kernel_rfl
theorem entry_search : entryFor table "re.Pattern.search" = some Builtin.«re.Pattern.search» := entryFor_of_tree (by kernel_rfl)
theorem args_search (a b : Value) : argsOk "re.Pattern.search" ⟨[a, b], []⟩ := by unfold argsOk; kernel_rfl
theorem plainAttrs_pat : PlainAttrs "re.Pattern" :=
  ⟨⟨"object.__getattribute__", by rw [typeLookup_type, builtinLookup_eq_fast]; kernel_rfl, by decide +kernel⟩, by rw [typeLookup_type, builtinLookup_eq_fast]; kernel_rfl⟩
section
variable {prog : Program} {w : World} {A : Around} {E : Value → Shared → Prop} {s : Shared}
theorem search_at {a b : Addr} {o ob : Obj} {p0 p3 p4 : Value} {t1 : Tok} {vs : Array Value} {n : Nat} {x : Str} {t : Tok} {Q : Value → Shared → Prop} (ho : s.heap.get? a = some o) (hc : o.cls = .type "re.Pattern") (hd : o.data = .fields #[p0, .int 32 t1, .int 0 0, p3, p4, .ref b, .int 0 0])
    (hb : s.heap.get? b = some ob) (hbd : ob.data = .seq vs n) (hcode : (vs.map Builtin.Re.reRawOf).map (·.toNat) = codeN ∨ (vs.map Builtin.Re.reRawOf).map (·.toNat) = codeV) (hx : x.cps.all plainCh = true) (hsz : x.cps.size ≤ 1000000) (hq : Q .none s) :
    wpAny (model prog w) A (call (.builtin "re.Pattern.search") [.ref a, .str x t]) Q E s := by
  refine wpAny_call_entry slot_search ⟨o, ho, hc⟩ entry_search ?_ (args_search _ _)
  unfold Builtin.«re.Pattern.search»
  refine wpAny_bind ?_
  unfold Builtin.Re.reTarget
  refine wpAny_bind (wpAny_of_eq (a := [some (.str x t), none, none]) (by rfl) ?_)
  dsimp only
  refine wpAny_bind (wpAny_pure ?_)
  refine wpAny_bind (wpAny_pure ?_)
  refine wpAny_bind (wpAny_fieldsOf ho hd ?_)
  refine wpAny_bind (m := Builtin.Re.reTextOf _) ?_
  unfold Builtin.Re.reTextOf
  refine wpAny_bind (wpAny_of_eq (a := some x) (by rfl) ?_)
  refine wpAny_pure ?_
  dsimp only
  have c1 : ∀ z : Bool, (z && ((0 : Nat) == 1)) = false := fun z => by rw [show ((0 : Nat) == 1) = false from rfl, Bool.and_false]
  have c2 : (Builtin.Re.reRawNat (#[p0, Value.int 32 t1, Value.int 0 0, p3, p4, Value.ref b, Value.int 0 0].getD 6 Value.none) == 1) = false := rfl
  rw [c1, c2]
  simp only [Bool.false_and, Bool.false_eq_true, if_false]
  refine wpAny_bind (wpAny_of_eq (a := ()) (by rfl) ?_)
  refine wpAny_bind (rawItems_at hb hbd (wpAny_pure ?_))
  dsimp only
  have e1 : min (Int.toNat (2 ^ 63 - 1)) x.cps.size = x.cps.size := by
    have : Int.toNat (2 ^ 63 - 1) = 9223372036854775807 := by decide
    rw [this]; lia
  have e2 : min (Int.toNat 0) x.cps.size = 0 := by simp
  rw [e1, e2]
  have hr := search_refused hcode hx
  unfold Builtin.Re.reAnswer
  refine wpAny_bind (run_refused hr ?_)
  exact wpAny_pure ⟨_, rfl, hq⟩
end
theorem PC_search {p q : Addr} {p0 p3 p4 : Value} {t1 : Tok} {vs : Array Value} {n : Nat} {x : Str} {r : Tok → Prop} (ho : (top0.heap_1 c.w.params).lookup p = some { cls := .type "re.Pattern", data := .fields #[p0, .int 32 t1, .int 0 0, p3, p4, .ref q, .int 0 0] })
    (hb : (top0.heap_1 c.w.params).lookup q = some { cls := .type "tuple", data := .seq vs n }) (hcode : (vs.map Builtin.Re.reRawOf).map (·.toNat) = codeN ∨ (vs.map Builtin.Re.reRawOf).map (·.toNat) = codeV) (hx : x.cps.all plainCh = true) (hsz : x.cps.size ≤ 1000000) :
    PC c e vars H (.builtin "re.Pattern.search") [.con (.ref p), .strP x r] .none H := fun ws s fz ys ρ g Q E R hv k => by
  induction hv using VRs.consE with
  | k ha hv2 =>
    induction hv2 using VRs.consE with
    | k hb2 hnil =>
      induction hnil using VRs.nilE; cases ha; induction hb2 using VR.strE
      exact search_at (R.In _ _ ho) rfl rfl (R.In _ _ hb) rfl hcode hx hsz (k .none s.heap s.toks g fz ρ KtsTurn.refl Ext.refl .none R)
theorem Mth_pat {p : Addr} {o : Obj} (ho : (top0.heap_1 c.w.params).lookup p = some o) (hc : o.cls = .type "re.Pattern") (hd' : o.dict = none) : Mth c e vars H (.con (.ref p)) (Str.ofString "search") "re.Pattern.search" := fun v s fz ys ρ g R hv => by
  cases hv
  exact ⟨"re.Pattern", plainAttrs_pat, slot_search, type_search, ⟨_, R.In _ _ ho, hc⟩, fun a q => by cases q; exact ⟨_, R.In _ _ ho, hd'⟩⟩
end Mine
end

section
open PySem PySem.W PyProof.Rows PySem.Calls PyProof.Rows.LCg
set_option Elab.async false
set_option linter.all false
set_option maxRecDepth 100000
set_option maxHeartbeats 1000000
namespace Mine
variable {c : Amb} {e : Sc} {vars vars' vars'' : Vars} {H H1 H2 H3 : List MO}
theorem hlk_some {name : Str} {es : List DictEntry} {x : V} (h : (some x).isSome = true → ∃ (hh : Int) (t : Tok) (xv : Value), es = [⟨hh, .str (Str.ofString "_headers") t, xv⟩]) (k : ∀ (hh : Int) (t : Tok) (xv : Value), getL name [⟨hh, .str (Str.ofString "_headers") t, xv⟩] = some none) : getL name es = some none := by
  (refine e31 (h rfl) fun hh t xv q36_ => ?_; subst q36_); exact k _ _ _
theorem hlk_none {name : Str} {es : List DictEntry} (h : (none : Option V).isSome = false → es = []) (k : getL name [] = some none) : getL name es = some none := by
  rw [h rfl]; exact k
theorem truthyN {M : Model} {A : Around} {E : Value → Shared → Prop} {s : Shared} {Q : Bool → Shared → Prop} (h : Q false s) : wpAny M A (truthy .none) Q E s := fun _ _ _ => h
theorem TB_plainN {x : Expr} {whole : Sem Value} (h : TE c e vars H whole .none H1) (hp : isTrue x e.env whole = (do let v ← whole; standAt x.pos; holding [v] (truthy v)) := by rfl) :
    TB c e vars H (isTrue x e.env whole) false H1 := fun s fz ys ρ g Q E R k => by
  refine isTrue_plain (h _ _ _ _ _ _ _ R fun v h1 tk1 g1 fz1 ρ1 T1 X1 v1 R1 => ?_) hp
  cases v1
  exact truthyN (k _ h1 tk1 g1 fz1 ρ1 T1 X1 rfl R1)
theorem get_set_ne {i k : Nat} {a b : MO} (h : H[i]? = some a) (hne : k ≠ i) : (H.set k b)[i]? = some a := by rw [List.getElem?_set_ne hne]; exact h
theorem get_set_eq {k : Nat} {a b : MO} (h : H[k]? = some a) : (H.set k b)[k]? = some b := by
  have : k < H.length := by
    (refine Or.elim (Nat.lt_or_ge k H.length) (fun z => ?_) (fun z => ?_))
    · exact z
    · rw [List.getElem?_eq_none z] at h; exact ns h
  rw [List.getElem?_set_self this]
theorem get_app {i : Nat} {a : MO} {J : List MO} (h : H[i]? = some a) : (H ++ J)[i]? = some a := by
  have : i < H.length := by
    (refine Or.elim (Nat.lt_or_ge i H.length) (fun z => ?_) (fun z => ?_))
    · exact z
    · rw [List.getElem?_eq_none z] at h; exact ns h
  rw [List.getElem?_append_left this]; exact h
theorem get_last {a : MO} : (H ++ [a])[H.length]? = some a := by simp
theorem lt_of_get {i : Nat} {a : MO} (h : H[i]? = some a) : i < H.length := by
  (refine Or.elim (Nat.lt_or_ge i H.length) (fun z => ?_) (fun z => ?_))
  · exact z
  · rw [List.getElem?_eq_none z] at h; exact ns h
structure HdrAt (H : List MO) (i j k : Nat) (ps : List V) : Prop where
  hi : H[i]? = some (.inst j)
  hj : H[j]? = some (.idict (some (.obj k)))
  hk : H[k]? = some (.list ps)
theorem HdrAt.ik {i j k : Nat} {ps : List V} (h : HdrAt H i j k ps) : k ≠ i := fun z => by
  have := h.hi; rw [← z, h.hk] at this; (replace this := Option.some.inj this; cases this)
theorem HdrAt.jk {i j k : Nat} {ps : List V} (h : HdrAt H i j k ps) : k ≠ j := fun z => by
  have := h.hj; rw [← z, h.hk] at this; (replace this := Option.some.inj this; cases this)
theorem HdrAt.set {i j k : Nat} {ps qs : List V} (h : HdrAt H i j k ps) : HdrAt (H.set k (.list qs)) i j k qs := ⟨get_set_ne h.hi h.ik, get_set_ne h.hj h.jk, get_set_eq h.hk⟩
theorem CapOk.nil {env env' : Env} : CapOk env env' vars [] := fun y v h => by simp at h
mutual
theorem V.lt_le {n n' : Nat} (h : n ≤ n') : ∀ {x : V}, V.lt n x = true → V.lt n' x = true
  | .obj i, hx => by unfold V.lt at hx ⊢; exact decide_eq_true (Nat.lt_of_lt_of_le (of_decide_eq_true hx) h)
  | .tup xs, hx => by unfold V.lt at hx ⊢; exact Vs.lt_le h hx
  | .lst xs, hx => by unfold V.lt at hx ⊢; exact Vs.lt_le h hx
  | .none, _ => rfl
  | .bool _, _ => rfl
  | .intP _ _, _ => rfl
  | .strP _ _, _ => rfl
  | .lstC _, _ => rfl
  | .con _, _ => rfl
theorem Vs.lt_le {n n' : Nat} (h : n ≤ n') : ∀ {xs : List V}, Vs.lt n xs = true → Vs.lt n' xs = true
  | [], _ => rfl
  | x :: r, hx => by
    unfold Vs.lt at hx ⊢
    (refine e02 (Bool.and_eq_true_iff.mp hx) fun a b => ?_)
    rw [V.lt_le h a, Vs.lt_le h b]; rfl
end
theorem MO.lt_le {n n' : Nat} (h : n ≤ n') {mo : MO} (hm : MO.lt n mo = true) : MO.lt n' mo = true := by
  cases mo with
  | list xs => exact Vs.lt_le h hm
  | dict es => exact Vs.lt_le h hm
  | inst j => exact decide_eq_true (Nat.lt_of_lt_of_le (of_decide_eq_true hm) h)
  | idict x => cases x with
    | none => rfl
    | some x => exact V.lt_le (x := x) h hm
theorem HOk.list (h : HOk H) {k : Nat} {xs : List V} (hk : H[k]? = some (.list xs)) : MO.lt H.length (.list xs) = true := h _ (List.mem_of_getElem? hk)
theorem HOk.snoc (h : HOk H) {a : MO} (ha : MO.lt H.length a = true) : HOk (H ++ [a]) := fun mo hm => by
  rw [List.length_append]
  (refine Or.elim (List.mem_append.mp hm) (fun q => ?_) (fun q => ?_))
  · exact MO.lt_le (Nat.le_add_right _ _) (h mo q)
  · rw [List.mem_singleton.mp q]; exact MO.lt_le (Nat.le_add_right _ _) ha
theorem HOk.set (h : HOk H) {k : Nat} {a : MO} (ha : MO.lt H.length a = true) : HOk (H.set k a) := fun mo hm => by
  rw [List.length_set]
  (refine Or.elim (List.mem_or_eq_of_mem_set hm) (fun q => ?_) (fun q => ?_))
  · exact h mo q
  · rw [q]; exact ha
theorem HdrAt.app {i j k : Nat} {ps : List V} {J : List MO} (h : HdrAt H i j k ps) : HdrAt (H ++ J) i j k ps := ⟨get_app h.hi, get_app h.hj, get_app h.hk⟩

theorem Rep.but0 {fz ys : Lg} {ρ : List Addr} {g h h' : Heap} {tk : Nat} (R : Rep c e vars H fz ρ ys g h tk) (hs : Heap.ExtBut h.objs.size h h') : Rep c e vars H fz ρ ys g h' tk :=
  R.garbage fun b o q => hs b o (Nat.ne_of_lt (Heap.lt_size q)) q
noncomputable def storeAll : List (Str × Pos) → List V → Vars → Vars
  | p :: ps, x :: xs, vars => storeAll ps xs (setv p.1 x vars)
  | _, _, vars => vars
theorem inOrder {M : Model} {A : Around} {E : Value → Shared → Prop} : ∀ {names : List (Str × Pos)} {vs : List Value} {xs : List V} {vars : Vars} {s : Shared} {fz ys : Lg} {ρ : List Addr} {g : Heap} {Q : Unit → Shared → Prop}, (∀ p ∈ names, TStore c e p.1) → Rep c e vars H fz ρ ys g s.heap s.toks → VRs fz ρ vs xs → names.length = xs.length →
    (∀ h' tk', Rep c e (storeAll names xs vars) H fz ρ ys g h' tk' → Q () { s with heap := h', toks := tk' }) → wpAny M A (assignInOrder (names.map fun p => assign (.Name p.1 p.2) e.env) vs) Q E s
  | [], _, _, vars, s, _, _, _, _, _, _, R, .nil, _, k => wpAny_pure (k s.heap s.toks R)
  | [], _, _, _, _, _, _, _, _, _, _, _, .cons _ _, hl, _ => by simp at hl
  | _ :: _, _, _, _, _, _, _, _, _, _, _, _, .nil, hl, _ => by simp at hl
  | p :: ps, _, _, vars, s, _, _, _, _, _, hx, R, .cons h1 h2, hl, k => by
    show wpAny _ _ (do holding _ (assign (.Name p.1 p.2) e.env _); assignInOrder (ps.map fun p => assign (.Name p.1 p.2) e.env) _) _ _ _
    refine wpAny_bind (wpAny_holding (wpAny_assign_Name (store (hx p (.head _)) R h1 fun h' tk' R' => ?_)))
    exact inOrder (fun q hq => hx q (.tail _ hq)) R' h2 (by simpa using hl) k
noncomputable def namesOf : List Expr → List (Str × Pos)
  | .Name x p :: r => (x, p) :: namesOf r
  | _ => []
theorem TAs_tup {names : List (Str × Pos)} {elts : List Expr} {kk : Nat} {pos : Pos} {xs : List V} (he : assignEach elts e.env = names.map fun p => (false, assign (.Name p.1 p.2) e.env)) (hx : ∀ p ∈ names, TStore c e p.1) (hl : names.length = xs.length) :
    TAs c e H (.Tuple elts kk pos) (.tup xs) vars (storeAll names xs vars) := fun v s fz ys ρ g Q E R hv k => by
  induction hv using VR.tupE with
  | k hm hr =>
    rename_i a vs n
    have hmap : (assignEach elts e.env).map (·.2) = names.map fun p => assign (.Name p.1 p.2) e.env := by rw [he, List.map_map]; rfl
    have hf : (assignEach elts e.env).findIdx? (·.1) = none := by
      rw [he, List.findIdx?_eq_none_iff]
      intro x hx
      (refine e12 (List.mem_map.mp hx) fun p _ q37_ => ?_; subst q37_)
      rfl
    refine assign_Tuple_tuple (items := vs.toArray) rfl ⟨_, R.getF hm, rfl, n, rfl⟩ (by rw [he, List.length_map, hl, List.size_toArray, hr.length]) hf fun h' hs => ?_
    rw [hmap]
    exact inOrder (s := { s with heap := h' }) hx (R.but0 hs) hr hl k
theorem TAs_lst {names : List (Str × Pos)} {elts : List Expr} {kk : Nat} {pos : Pos} {xs : List V} (he : assignEach elts e.env = names.map fun p => (false, assign (.Name p.1 p.2) e.env)) (hx : ∀ p ∈ names, TStore c e p.1) (hl : names.length = xs.length) :
    TAs c e H (.Tuple elts kk pos) (.lst xs) vars (storeAll names xs vars) := fun v s fz ys ρ g Q E R hv k => by
  induction hv using VR.lstE with
  | k hm hr =>
    rename_i a vs n
    have hmap : (assignEach elts e.env).map (·.2) = names.map fun p => assign (.Name p.1 p.2) e.env := by rw [he, List.map_map]; rfl
    have hf : (assignEach elts e.env).findIdx? (·.1) = none := by
      rw [he, List.findIdx?_eq_none_iff]
      intro x hx
      (refine e12 (List.mem_map.mp hx) fun p _ q38_ => ?_; subst q38_)
      rfl
    rw [assign_Tuple]
    refine wpAny_bind (wpAny_standAt ?_)
    unfold unpack
    rw [hf, show (assignEach elts e.env).length = vs.toArray.size from by rw [he, List.length_map, hl, List.size_toArray, hr.length]]
    refine wpAny_bind (wpAny_holding (kun_itemsOf (l := a) (items := vs.toArray) rfl ⟨_, R.getF hm, rfl, n, rfl⟩ fun h' hs => ?_))
    rw [hmap]
    exact inOrder (s := { s with heap := h' }) hx (R.but0 hs) hr hl k
theorem TAs_tup' {elts : List Expr} {kk : Nat} {pos : Pos} {xs : List V} (he : assignEach elts e.env = (namesOf elts).map fun p => (false, assign (.Name p.1 p.2) e.env)) (hx : ∀ p ∈ namesOf elts, TStore c e p.1) (hl : (namesOf elts).length = xs.length) :
    TAs c e H (.Tuple elts kk pos) (.tup xs) vars (storeAll (namesOf elts) xs vars) := fun v s fz ys ρ g Q E R hv k => by
  exact TAs_tup he hx hl v s fz ys ρ g Q E R hv k
theorem TAs_lst' {elts : List Expr} {kk : Nat} {pos : Pos} {xs : List V} (he : assignEach elts e.env = (namesOf elts).map fun p => (false, assign (.Name p.1 p.2) e.env)) (hx : ∀ p ∈ namesOf elts, TStore c e p.1) (hl : (namesOf elts).length = xs.length) :
    TAs c e H (.Tuple elts kk pos) (.lst xs) vars (storeAll (namesOf elts) xs vars) := fun v s fz ys ρ g Q E R hv k => by
  exact TAs_lst he hx hl v s fz ys ρ g Q E R hv k
theorem TS1_atup {elts : List Expr} {kk : Nat} {tpos pos : Pos} {value : Expr} {x : V} {vars1 : Vars} (h : TE c e vars H (eval value e.env) x H1) (ha : TAs c e H1 (.Tuple elts kk tpos) x vars vars1)
    (hs : swapsWithSole [.Tuple elts kk tpos] value pos.line e.env = pure false) (hw : swappedStores [.Tuple elts kk tpos] value e.env = pure none) : TS1 c e vars H (.Assign [.Tuple elts kk tpos] value pos) .next vars1 H1 := fun s fz ys ρ g Q E R k => by
  refine Assign_Tuple (h _ _ _ _ _ _ _ R fun v hh1 tk1 g1 fz1 ρ1 T1 X1 v1 R1 => ?_) hs hw
  exact ha v _ _ _ _ _ _ _ R1 v1 fun h' tk' R' => k .next h' tk' g1 fz1 ρ1 T1 X1 .next R'
theorem TS1_swap2 {elts : List Expr} {kk : Nat} {tpos pos : Pos} {value : Expr} {n1 n2 : Str} {a b : V} (h : TE c e vars H (eval value e.env) (.tup [a, b]) H1) (h1 : TStore c e n1) (h2 : TStore c e n2)
    (hs : swapsWithSole [.Tuple elts kk tpos] value pos.line e.env = pure false) (hw : swappedStores [.Tuple elts kk tpos] value e.env = pure (some [n1, n2])) : TS1 c e vars H (.Assign [.Tuple elts kk tpos] value pos) .next (setv n1 a (setv n2 b vars)) H1 := fun s fz ys ρ g Q E R k => by
  refine Assign_Tuple_swapped (names := [n1, n2]) (h _ _ _ _ _ _ _ R fun v hh1 tk1 g1 fz1 ρ1 T1 X1 v1 R1 => ?_) hs hw
  induction v1 using VR.tupE with
  | k hm hr =>
    rename_i ad vs n
    refine unpackItems_tuple (items := vs.toArray) rfl ⟨_, R1.getF hm, rfl, n, rfl⟩ (fun h' hx => ?_) |> fun z => (by rw [show ([n1, n2] : List Str).length = vs.toArray.size from by rw [List.size_toArray, hr.length]; rfl]; exact z)
    induction hr using VRs.consE with
    | @k va _ ha hr => induction hr using VRs.consE with
      | @k vb _ hb hr =>
        induction hr using VRs.nilE
        show wpAny _ _ (do holding [va] (bindName e.env n2 vb); do holding [] (bindName e.env n1 va); pure ()) _ _ _
        refine wpAny_bind (wpAny_holding (wpAny_bindName (store h2 (R1.but0 hx) hb fun h2' tk2 R2 => ?_)))
        refine wpAny_bind (wpAny_holding (wpAny_bindName (store h1 R2 ha fun h3' tk3 R3 => ?_)))
        exact wpAny_pure (k .next h3' tk3 g1 fz1 ρ1 T1 X1 .next R3)
end Mine
end

section
open PySem PySem.W PyProof.Rows PySem.Calls PyProof.Rows.LCg
set_option Elab.async false
set_option linter.all false
set_option maxRecDepth 100000
set_option maxHeartbeats 1000000
namespace Mine
variable {c : Amb} {e : Sc} {vars vars' vars'' : Vars} {H H1 H2 H3 : List MO}
theorem CapOk.cons {env env' : Env} {r : Vars} {y : Str} {v : V} (h : CapOk env env' vars r) (h1 : vars.lookup y = some v) (h2 : env.kindOf y = some .cell) (h3 : env'.kindOf y = some .cell) (h4 : env'.cells.lookup y = env.cells.lookup y) : CapOk env env' vars ((y, v) :: r) := fun x u q => by
  rw [List.lookup_cons] at q
  split at q
  · rename_i z
    (replace q := Option.some.inj q; subst q)
    rw [beq_iff_eq.mp z]
    exact ⟨h1, h2, h3, h4⟩
  · exact h x u q
theorem TS_nil0 : TS c e vars H [] .next [] H := TS_weak TS_nil fun x v q => by simp at q
theorem CTest.one {t : Expr} {b : Bool} (h : TB c e vars H (isTrue t e.env (eval t e.env)) b H1) : CTest c e vars H [t] b H1 := h
theorem TAs.strong {tgt : Expr} {x : V} {vars₀ vars1 : Vars} (h : TAs c e H tgt x vars₀ vars1) (k : ∀ y v, vars₀.lookup y = some v → vars.lookup y = some v) : TAs c e H tgt x vars vars1 :=
  fun v s fz ys ρ g Q E R hv kk => h v s fz ys ρ g Q E (R.forget k) hv kk
theorem CmpR_filter {α : Type} {tgt elt : Expr} {ifs : List Expr} {KH : List MO → Prop} {l : List α} {f g : α → V} {p : α → Bool} {vars₀ : Vars} (hK : KH H)
    (step : ∀ a ∈ l, ∃ vars1, TAs c e H tgt (f a) vars₀ vars1 ∧ (∀ y v, vars₀.lookup y = some v → vars1.lookup y = some v) ∧ CTest c e vars1 H ifs (p a) H ∧ (p a = true → TE c e vars1 H (eval elt e.env) (g a) H)) :
    ∀ vars, (∀ y v, vars₀.lookup y = some v → vars.lookup y = some v) → CmpR c e tgt elt ifs KH (l.map f) vars H ((l.filter p).map g) H := by
  induction l with
  | nil => exact fun vars _ => .nil hK
  | cons a l ih =>
    intro vars hv
    (refine e14 (step a (.head _)) fun vars1 h1 h2 h3 h4 => ?_)
    have ih' := ih (fun b hb => step b (.tail _ hb)) vars1 h2
    rw [List.map_cons]
    cases hp : p a with
    | true =>
      rw [List.filter_cons_of_pos hp, List.map_cons]
      rw [hp] at h3
      exact .keep hK (h1.strong hv) h3 (h4 hp) ih'
    | false =>
      rw [List.filter_cons_of_neg (by rw [hp]; simp)]
      rw [hp] at h3
      exact .skip hK (h1.strong hv) h3 ih'
theorem CmpR_map {α : Type} {tgt elt : Expr} {KH : List MO → Prop} {l : List α} {f g : α → V} {vars₀ : Vars} (hK : KH H)
    (step : ∀ a ∈ l, ∃ vars1, TAs c e H tgt (f a) vars₀ vars1 ∧ (∀ y v, vars₀.lookup y = some v → vars1.lookup y = some v) ∧ TE c e vars1 H (eval elt e.env) (g a) H) :
    CmpR c e tgt elt [] KH (l.map f) vars₀ H (l.map g) H := by
  have := CmpR_filter (ifs := []) (tgt := tgt) (elt := elt) (g := g) (f := f) (p := fun _ => true) (l := l) hK (fun a ha => let ⟨v1, h1, h2, h3⟩ := step a ha; ⟨v1, h1, h2, ⟨rfl, rfl⟩, fun _ => h3⟩) vars₀ (fun _ _ h => h)
  rwa [List.filter_eq_self.mpr (fun _ _ => rfl)] at this
end Mine
end

section
open PySem PySem.W PyProof.Rows PySem.Calls PyProof.Rows.LCg
set_option Elab.async false
set_option linter.all false
set_option maxRecDepth 100000
set_option maxHeartbeats 1000000
namespace Mine
variable {c : Amb} {e : Sc} {vars vars' vars'' : Vars} {H H1 H2 H3 : List MO}
theorem PO_isnT' {p q : String} : PO c e vars H (compareOp .IsNot) (.con (.type p)) (.con (.type q)) (.bool (!decide (p = q))) H := PO_isnT (by simp)
theorem PO_isT' {p q : String} : PO c e vars H (compareOp .Is) (.con (.type p)) (.con (.type q)) (.bool (decide (p = q))) H := PO_isT rfl
end Mine
end

section
open PySem PySem.W PyProof.Rows PySem.Calls PyProof.Rows.LCg
set_option Elab.async false
set_option linter.all false
set_option maxRecDepth 100000
set_option maxHeartbeats 1000000
namespace Mine
variable {c : Amb} {e : Sc} {vars vars' vars'' : Vars} {H H1 H2 H3 : List MO}
noncomputable def rngO (i n : Int) : Obj := { cls := .type "range_iterator", data := .fields #[rawInt i, rawInt (n - i), rawInt 1] }
theorem small_of {n : Int} (h0 : 0 ≤ n) (h : n ≤ 1000) : Builtin.Range.small 0 n 1 = true := small_one (by decide) (by decide) (by lia) (by lia)
theorem size_of {n : Int} (h0 : 0 ≤ n) : Builtin.Range.rangeSize 0 n 1 = n := by
  rw [rangeSize_one]
  split <;> lia
noncomputable abbrev rngV (n : Nat) : List V := (List.range n).map fun (i : Nat) => V.int (i : Int)
theorem walking_rng {tgt : Expr} {fz₀ : Lg} {ρ₀ : List Addr} {n : Nat} : Walking c tgt fz₀ ρ₀ (rngV n) (fun _ => True) (St1 fun i o => o = rngO (i : Int) (n : Int)) := by
  refine walking1 (n := "range_iterator") (fl := fun i => #[rawInt (i : Int), rawInt ((n : Int) - (i : Int)), rawInt 1]) (fun i o h => by subst h; exact ⟨rfl, rfl⟩) (by decide)
    (fun i I o s Q E h ho hq => by subst h; exact wpAny_pyIter_rangeiter (x := (i : Int)) (left := (n : Int) - (i : Int)) (step := 1) ho hq)
    (fun i x hx e vars H I o fz ρ s ys g Q E _ X hst R k => ?_) (fun i hx e vars H I o fz ρ s ys g Q E _ X hst R k => ?_)
  · subst hst
    have hi : i < n := by
      (refine Or.elim (Nat.lt_or_ge i n) (fun z => ?_) (fun z => ?_))
      · exact z
      · rw [List.getElem?_eq_none (by simpa using z)] at hx; exact ns hx
    have hx2 : x = V.int (i : Int) := by
      rw [List.getElem?_map, List.getElem?_range hi] at hx
      exact (Option.some.inj hx).symm
    subst hx2
    refine wpAny_pyNext_range_item (x := (i : Int)) (left := (n : Int) - (i : Int)) (step := 1) R.getY (by lia) fun h' hi' hs => ?_
    refine k _ h' (s.toks + 1) _ (Nat.le_succ _) (.int _ _ trivial) hs.extBut hi' ?_
    have e1 : ((i + 1 : Nat) : Int) = (i : Int) + 1 := by push_cast; rfl
    show _ = rngO ((i + 1 : Nat) : Int) (n : Int)
    unfold rngO
    rw [e1, show (n : Int) - ((i : Int) + 1) = (n : Int) - (i : Int) - 1 by lia]
  · subst hst
    have hi : n ≤ i := by
      (refine Or.elim (Nat.lt_or_ge i n) (fun z => ?_) (fun z => ?_))
      · rw [List.getElem?_map, List.getElem?_range z] at hx; exact sn hx
      · exact z
    exact wpAny_pyNext_range_end (x := (i : Int)) (left := (n : Int) - (i : Int)) (step := 1) rfl R.getY (by lia) k
theorem ItR_range {x : Str} {np pos : Pos} {a0 tgt : Expr} {n : Nat} {m : Int} {r : Tok → Prop} (hf : TE c e vars H (eval (.Name x np) e.env) (.con (.type "range")) H) (ha : TE c e vars H (eval a0 e.env) (.intP m r) H1) (hm : m = (n : Int)) (hn : n ≤ 1000)
    (he : starEach [a0] e.env = [(false, eval a0 e.env)]) : ItR c e vars H (.Call (.Name x np) [a0] [] pos) tgt (rngV n) (fun _ => True) H1 := fun s fz ys ρ g Q E R k => by
  subst hm
  refine wpAny_Call_Name_kw (hf _ _ _ _ _ _ _ R fun v hh1 tk1 g1 fz1 ρ1 T1 X1 v1 R1 => ?_)
  cases v1
  show wpAny _ _ (callWith pos (.type "range") [] (backTo pos (starEach [a0] e.env)) []) _ _ _
  rw [he]
  refine callWith_of (P := fun h => (top0.heap_1 c.w.params).In h) rfl Kept.type ?_
  refine evalArgs_plain (spliced_cons (ha _ _ _ _ _ _ _ R1 fun b hh2 tk2 g2 fz2 ρ2 T2 X2 v2 R2 => spliced_nil ⟨R2.In, ?_⟩))
  induction v2 using VR.intE with
  | k t _ =>
    refine call_range_1 ?_
    dsimp only
    have R3 := (R2.push { cls := .type "range", data := .fields #[.int 0 tk2, .int (n : Int) t, .int 1 (tk2 + 1)] }).up (Nat.le_add_right tk2 2)
    refine wpAny_pyIter_range (IsRange.new _ _ _ _ _ _ _) (small_of (by lia) (by lia)) ?_
    rw [size_of (by lia)]
    refine k fz2 ρ2 g2 (St1 fun i o => o = rngO (i : Int) (n : Int)) _ [(_, rngO 0 (n : Int))] _ _ (T1.trans T2) (X1.trans X2) (fun fm => walking_rng) ⟨_, rfl, rfl⟩ ?_
    have e1 : rngO 0 (n : Int) = { cls := .type "range_iterator", data := .fields #[rawInt 0, rawInt (n : Int), rawInt 1] } := by unfold rngO; rw [Int.sub_zero]
    rw [e1]
    exact R3.allocY _ rfl
end Mine
end

section
open PySem PySem.W PyProof.Rows PySem.Calls PyProof.Rows.LCg
set_option Elab.async false
set_option linter.all false
set_option maxRecDepth 100000
set_option maxHeartbeats 1000000
namespace Mine
variable {c : Amb} {e : Sc} {vars vars' vars'' : Vars} {H H1 H2 H3 : List MO}
theorem Rep.updE2 {fz ys : Lg} {ρ : List Addr} {g h h' : Heap} {tk : Nat} {a b : Addr} {o o' p p' : Obj} (R : Rep c e vars H fz ρ ((a, o) :: (b, p) :: ys) g h tk) (hs : ∀ d q, d ≠ a → d ≠ b → h.get? d = some q → h'.get? d = some q)
    (ho : h'.get? a = some o') (hp : h'.get? b = some p') (po : Plain o) (pp : Plain p) : Rep c e vars H fz ρ ((a, o') :: (b, p') :: ys) g h' tk := by
  obtain ⟨m, os, xs, l, q, f⟩ := R.ex
  have P1 : (xs ++ (ρ.zip os ++ ((a, o) :: (b, p) :: ys))).Perm ((a, o) :: (b, p) :: (xs ++ (ρ.zip os ++ ys))) := by
    have z : ∀ (w : Addr × Obj) (r : Lg), (xs ++ (ρ.zip os ++ (w :: r))).Perm (w :: (xs ++ (ρ.zip os ++ r))) := fun w r => ((perm_mid _ _ _).trans (List.Perm.append_left _ (perm_mid _ _ _))).symm
    exact (z _ _).trans (List.Perm.cons _ (z _ _))
  have P2 : (xs ++ (ρ.zip os ++ ((a, o') :: (b, p') :: ys))).Perm ((a, o') :: (b, p') :: (xs ++ (ρ.zip os ++ ys))) := by
    have z : ∀ (w : Addr × Obj) (r : Lg), (xs ++ (ρ.zip os ++ (w :: r))).Perm (w :: (xs ++ (ρ.zip os ++ r))) := fun w r => ((perm_mid _ _ _).trans (List.Perm.append_left _ (perm_mid _ _ _))).symm
    exact (z _ _).trans (List.Perm.cons _ (z _ _))
  have l1 := l.perm P1
  generalize hW : xs ++ (ρ.zip os ++ ys) = W at l1 P1 P2
  have za := l1.N _ (List.mem_append_left _ (.head _))
  have zb := l1.N _ (List.mem_append_left _ (.tail _ (.head _)))
  have nd1 := List.nodup_cons.mp l1.nd
  have nd2 := List.nodup_cons.mp nd1.2
  have hneA : ∀ {z : Addr × Obj}, z ∈ W ++ fz → z.1 ≠ a := fun {z} hm q => by
    (refine Or.elim (List.mem_append.mp hm) (fun w => ?_) (fun w => ?_))
    · exact nd1.1 (List.mem_map.mpr ⟨z, .tail _ w, q⟩)
    · exact l1.ap z w (List.mem_map.mpr ⟨_, .head _, q.symm⟩)
  have hneB : ∀ {z : Addr × Obj}, z ∈ W ++ fz → z.1 ≠ b := fun {z} hm q => by
    (refine Or.elim (List.mem_append.mp hm) (fun w => ?_) (fun w => ?_))
    · exact nd2.1 (List.mem_map.mpr ⟨z, w, q⟩)
    · exact l1.ap z w (List.mem_map.mpr ⟨_, .tail _ (.head _), q.symm⟩)
  have l2 : Led c.L g h' m fz ((a, o') :: (b, p') :: W) := by
    refine ⟨⟨?_, fun d oo q => hs d oo (fun z => by rw [z, za.2.2] at q; exact ns q) (fun z => by rw [z, zb.2.2] at q; exact ns q) (l1.F.keep d oo q), l1.F.above⟩, fun z hz => ?_, l1.nd, fun z hz hm => l1.ap z hz hm⟩
    · (refine e34 (l1.F.ns) fun oL es ep h1 h2 h3 h4 => ?_)
      exact ⟨oL, es, ep, hs _ _ (fun z => za.2.1 z.symm) (fun z => zb.2.1 z.symm) h1, h2, h3, h4⟩
    · (refine Or.elim (List.mem_append.mp hz) (fun w => ?_) (fun w => ?_))
      · (refine Or.elim (List.mem_cons.mp w) (fun o257_ => ?_) (fun w => ?_); subst o257_)
        · exact ⟨ho, za.2⟩
        · (refine Or.elim (List.mem_cons.mp w) (fun o258_ => ?_) (fun w => ?_); subst o258_)
          · exact ⟨hp, zb.2⟩
          · have := l1.N z (List.mem_append_left _ (.tail _ (.tail _ w)))
            exact ⟨hs _ _ (hneA (List.mem_append_left _ w)) (hneB (List.mem_append_left _ w)) this.1, this.2⟩
      · have := l1.N z (List.mem_append_right _ w)
        exact ⟨hs _ _ (hneA (List.mem_append_right _ w)) (hneB (List.mem_append_right _ w)) this.1, this.2⟩
  exact ⟨R.gr, R.lo, R.env, m, os, xs, l2.perm P2.symm, q, Rep.addY (Rep.addY (Rep.varY (Rep.varY f po) pp))⟩
noncomputable abbrev enumO (it : Addr) (i : Int) (old : Value) : Obj := { cls := .type "enumerate", dict := none, data := .fields #[.none, .bool false, .ref it, rawInt i, .none, old], slots := #[] }
noncomputable abbrev enumItems (xs : List V) : List V := (xs.zipIdx).map fun p => V.tup [V.int (p.2 : Int), p.1]
theorem enumItems_get {xs : List V} {i : Nat} {y : V} (h : (enumItems xs)[i]? = some y) : ∃ x, xs[i]? = some x ∧ y = V.tup [V.int (i : Int), x] := by
  rw [List.getElem?_map] at h
  (refine e12 (Option.map_eq_some_iff.mp h) fun p h1 h2 => ?_)
  rw [List.getElem?_zipIdx] at h1
  (refine e12 (Option.map_eq_some_iff.mp h1) fun x h3 h4 => ?_)
  subst h4
  exact ⟨x, h3, by rw [← h2]; simp⟩
section
variable {prog : Program} {w : World} {A : Around} {E : Value → Shared → Prop} {s : Shared}
theorem enum_step {I it : Addr} {i : Nat} {old : Value} {P : Value → Heap → Nat → Prop} {Q : Option Value → Shared → Prop} (he : IsEnum s.heap I it i old) (hne : I ≠ it) (hlt : it < s.heap.objs.size)
    (hn : ∀ E', wpAny (model prog w) A.in1 (Builtin.SmallTypes.nextOf (.ref it)) (fun x s₁ => ∃ h₁ tk₁, s₁ = { s with heap := h₁, toks := tk₁ } ∧ Heap.SameBut it s.heap h₁ ∧ P x h₁ tk₁) E' s)
    (hQ : ∀ x h₁ tk h', P x h₁ tk → IsEnumOut h' I it ((i : Int) + 1) x s.heap.objs.size → h'.get? it = h₁.get? it → h'.get? s.heap.objs.size = some (tupO [.int i tk, x] 0) →
      (∀ b o, b ≠ I → b ≠ it → s.heap.get? b = some o → h'.get? b = some o) → Q (some (.ref s.heap.objs.size)) { s with heap := h', toks := tk + 1 }) :
    wpAny (model prog w) A (pyNext (.ref I)) Q E s := by
  have hT : s.TypeIs (.ref I) "enumerate" := ⟨_, he, rfl⟩
  unfold pyNext
  refine wpAny_bind (wpAny_attempt (wpAny_callSpecial?_slot (name := Str.ofString "__next__") hT F.slot_enumerate_next
    (wpAny_call_entry F.slot_enumerate_next hT F.entry_enumerate_next ?_ (F.args_enumerate_next_1 _))))
  obtain ⟨hp, gg, dd, tk₀, os⟩ := s
  have lI : I < hp.objs.size := Heap.lt_size he
  show wpAny _ _ (field (.ref I) 2 >>= _) _ _ _
  refine wpAny_bind (wpAny_field he rfl (x := .ref it) rfl (wpAny_bind (wpAny_mono (hn _) (fun x s₁ q => ?_) fun _ _ z => z)))
  (refine e23 q fun h₁ tk q39_ b1 hP => ?_; try clear q; subst q39_)
  replace b1 : Heap.SameBut it hp h₁ := b1
  have e1 : IsEnum h₁ I it i old := (b1.2 I hne).trans he
  show wpAny _ _ (field (.ref I) 3 >>= _) _ _ ⟨h₁, gg, dd, tk, os⟩
  refine wpAny_bind (wpAny_field e1 rfl (x := rawInt i) rfl ?_)
  show wpAny _ _ (field (.ref I) 4 >>= _) _ _ ⟨h₁, gg, dd, tk, os⟩
  refine wpAny_bind (wpAny_field e1 rfl (x := .none) rfl ?_)
  show wpAny _ _ (mkInt i >>= _) _ _ ⟨h₁, gg, dd, tk, os⟩
  refine wpAny_bind (wpAny_mkInt ?_)
  show wpAny _ _ (setField (.ref I) 3 (rawInt ((i : Int) + 1)) >>= _) _ _ ⟨h₁, gg, dd, tk + 1, os⟩
  refine wpAny_bind (wpAny_setField_rec e1 (by simp) fun h₂ e2 b2 => ?_)
  show wpAny _ _ (setField (.ref I) 4 .none >>= _) _ _ ⟨h₂, gg, dd, tk + 1, os⟩
  refine wpAny_bind (wpAny_setField_rec e2 (by simp) fun h₃ e3 b3 => ?_)
  show wpAny _ _ (newTuple [.int i tk, x] >>= _) _ _ ⟨h₃, gg, dd, tk + 1, os⟩
  refine wpAny_bind (wpAny_newTuple ?_)
  replace b2 : Heap.SameBut I h₁ h₂ := b2
  replace b3 : Heap.SameBut I h₂ h₃ := b3
  have z3 : h₃.objs.size = hp.objs.size := by rw [b3.1, b2.1, b1.1]
  have e4 : IsEnum (h₃.push (tupO [.int i tk, x] 0)) I it ((i : Int) + 1) old := Heap.get?_push_of_some _ e3
  have t4 : (h₃.push (tupO [.int i tk, x] 0)).get? hp.objs.size = some (tupO [.int i tk, x] 0) := by rw [← z3]; exact Heap.get?_push_size _ rfl
  have k4 : ∀ b o, b ≠ I → b ≠ it → hp.get? b = some o → (h₃.push (tupO [.int i tk, x] 0)).get? b = some o := fun b o c1 c2 q =>
    Heap.get?_push_of_some _ (b3.extBut b o c1 (b2.extBut b o c1 (b1.extBut b o c2 q)))
  have i4 : (h₃.push (tupO [.int i tk, x] 0)).get? it = h₁.get? it := by
    rw [Heap.get?_push_ne _ _ _ (by rw [z3]; exact Nat.ne_of_lt hlt), b3.2 _ (Ne.symm hne), b2.2 _ (Ne.symm hne)]
  rw [z3]
  show wpAny _ _ (Builtin.SmallTypes.ownedTupleIsFree (.ref I) >>= _) _ _ ⟨h₃.push (tupO [.int i tk, x] 0), gg, dd, tk + 1, os⟩
  generalize h₃.push (tupO [.int i tk, x] 0) = h₄ at e4 t4 k4 i4 ⊢
  refine wpAny_bind ?_
  unfold Builtin.SmallTypes.ownedTupleIsFree
  refine wpAny_bind (wpAny_field e4 rfl (x := .none) rfl (wpAny_pure ?_))
  simp only [if_true]
  refine wpAny_bind (wpAny_rule (wpAny_bind (wpAny_field e4 rfl (x := old) rfl (wpAny_bind (wpAny_setField_rec e4 (by simp) fun h₅ e5 b5 => ?_)))))
  show wpAny _ _ (Builtin.SmallTypes.ownedTupleHandOut (.ref I) (.ref hp.objs.size) >>= _) _ _ ⟨h₅, gg, dd, tk + 1, os⟩
  unfold Builtin.SmallTypes.ownedTupleHandOut
  refine wpAny_bind (wpAny_bind (wpAny_setField_rec e5 (by simp) fun h₆ e6 b6 => ?_))
  refine wpAny_setField_rec e6 (by simp) fun h₇ e7 b7 => ?_
  replace b5 : Heap.SameBut I h₄ h₅ := b5
  replace b6 : Heap.SameBut I h₅ h₆ := b6
  replace b7 : Heap.SameBut I h₆ h₇ := b7
  refine wpAny_bind (wpAny_letGo (wpAny_pure ⟨_, rfl, wpAny_pure (hQ x h₁ tk h₇ hP e7 ?_ ?_ ?_)⟩))
  · rw [b7.2 _ (Ne.symm hne), b6.2 _ (Ne.symm hne), b5.2 _ (Ne.symm hne), i4]
  · have := Nat.ne_of_gt lI
    exact b7.extBut _ _ this (b6.extBut _ _ this (b5.extBut _ _ this t4))
  · exact fun b o c1 c2 q => b7.extBut b o c1 (b6.extBut b o c1 (b5.extBut b o c1 (k4 b o c1 c2 q)))
end

noncomputable def StE (it : Addr) (st : Nat → Obj → Prop) (i : Nat) (I : Addr) (objs : Lg) : Prop := ∃ o old, objs = [(I, enumO it (i : Int) old), (it, o)] ∧ st i o
structure EnumSrc (c : Amb) (it : Addr) (st : Nat → Obj → Prop) (fz₀ : Lg) (ρ₀ : List Addr) (xs : List V) : Prop where
  plain : ∀ i o, st i o → Plain o
  next : ∀ (i : Nat) (x : V), xs[i]? = some x → ∀ (e : Sc) (vars : Vars) (H : List MO) (fz ys : Lg) (ρ : List Addr) (g : Heap) (s : Shared) (o : Obj) (E : Value → Shared → Prop), Rep c e vars H fz ρ ys g s.heap s.toks → Ext fz₀ fz ρ₀ ρ → s.heap.get? it = some o → st i o →
    wpAny c.M c.A.in1 (Builtin.SmallTypes.nextOf (.ref it)) (fun v s₁ => ∃ h₁ tk₁, s₁ = { s with heap := h₁, toks := tk₁ } ∧ Heap.SameBut it s.heap h₁ ∧ s.toks ≤ tk₁ ∧ VR fz ρ v x ∧ ∃ o', h₁.get? it = some o' ∧ st (i + 1) o') E s
  over : ∀ (i : Nat), xs[i]? = none → ∀ (e : Sc) (vars : Vars) (H : List MO) (fz ys : Lg) (ρ : List Addr) (g : Heap) (s : Shared) (I : Addr) (o : Obj) (old : Value) (Q : Option Value → Shared → Prop) (E : Value → Shared → Prop), Rep c e vars H fz ρ ys g s.heap s.toks → Ext fz₀ fz ρ₀ ρ → s.heap.get? it = some o → st i o →
    IsEnum s.heap I it i old → (∀ h', Heap.ExtBut it s.heap h' → Q none { s with heap := h' }) → wpAny c.M c.A (pyNext (.ref I)) Q E s
theorem walking_enum {elts : List Expr} {kk : Nat} {tpos : Pos} {it : Addr} {st : Nat → Obj → Prop} {fz₀ : Lg} {ρ₀ : List Addr} {xs : List V}
    (W : EnumSrc c it st fz₀ ρ₀ xs) : Walking c (.Tuple elts kk tpos) fz₀ ρ₀ (enumItems xs) (fun _ => True) (StE it st) := by
  have plE : ∀ i old, Plain (enumO it i old) := fun i old => Plain.fields rfl
  refine ⟨?_, ?_, ?_, ?_⟩
  · (intro i y hy e vars H I objs fz ρ s ys g Q E _ X q6_ R k; (refine e22 q6_ fun o old q40_ h => ?_; try clear q6_; subst q40_))
    (refine e12 (enumItems_get hy) fun x hx q41_ => ?_; subst q41_)
    have gI : s.heap.get? I = some (enumO it (i : Int) old) := R.getY
    have R' : Rep c e vars H fz ρ ((it, o) :: (I, enumO it (i : Int) old) :: ys) g s.heap s.toks := R.permYs (List.Perm.swap _ _ _)
    have gt : s.heap.get? it = some o := R'.getY
    have hne : I ≠ it := by
      obtain ⟨m, os, ls, l, q, f⟩ := R.ex
      have := (l.perm (((perm_mid _ _ _).trans (List.Perm.append_left _ (perm_mid _ _ _))).symm)).nd
      intro z
      refine (List.nodup_cons.mp this).1 ?_
      refine List.mem_map.mpr ⟨(it, o), List.mem_append_right _ (List.mem_append_right _ (.head _)), z.symm⟩
    refine enum_step gI hne (Heap.lt_size gt) (fun E' => W.next i x hx _ _ _ _ _ _ g s o E' R X gt h) fun v h₁ tk h' hP heo hS htup hk => ⟨_, rfl, ?_⟩
    (refine e03 hP fun hle hv q30_ => ?_; try clear hP; obtain ⟨o', ho', hst'⟩ := q30_)
    refine wpAny_letOwnedTupleGo_enum heo fun h2 he2 hs2 => ?_
    have hlt : I < s.heap.objs.size := Heap.lt_size gI
    have R1 := R.allocF (tupO [.int (i : Int) tk, v] 0)
    refine k _ h2 (tk + 1) ((s.heap.objs.size, tupO [.int (i : Int) tk, v] 0) :: fz) [(I, enumO it ((i + 1 : Nat) : Int) v), (it, o')] Ext.cons (.tup (.head _) (.cons (.int _ _ trivial) (.cons (hv.ext Ext.cons) .nil))) ⟨o', v, rfl, hst'⟩ ?_
    refine (Rep.updE2 R1 (fun d q hd1 hd2 hq => ?_) ?_ ?_ (plE _ _) (W.plain _ _ h)).up (Nat.le_succ_of_le hle)
    · refine hs2.extBut d q hd1 ?_
      (refine Or.elim (Nat.lt_or_ge d s.heap.objs.size) (fun z => ?_) (fun z => ?_))
      · exact hk d q hd1 hd2 (by rw [Heap.get?_push_ne _ _ _ (Nat.ne_of_lt z)] at hq; exact hq)
      · have hd := Heap.lt_size hq
        rw [Heap.size_push] at hd
        have : d = s.heap.objs.size := Nat.le_antisymm (Nat.le_of_lt_succ hd) z
        subst this
        rw [Heap.get?_push_size _ rfl] at hq
        (replace hq := Option.some.inj hq; subst hq)
        exact htup
    · have e1 : ((i + 1 : Nat) : Int) = (i : Int) + 1 := by push_cast; rfl
      rw [e1]; exact he2
    · exact hs2.extBut _ _ (Ne.symm hne) (hS.trans ho')
  · (intro i hy e vars H I objs fz ρ s ys g Q E _ X q7_ R k; (refine e22 q7_ fun o old q42_ h => ?_; try clear q7_; subst q42_))
    have gI : s.heap.get? I = some (enumO it (i : Int) old) := R.getY
    have R' : Rep c e vars H fz ρ ((it, o) :: (I, enumO it (i : Int) old) :: ys) g s.heap s.toks := R.permYs (List.Perm.swap _ _ _)
    have gt : s.heap.get? it = some o := R'.getY
    have hi : xs[i]? = none := by
      (refine Or.elim (Nat.lt_or_ge i xs.length) (fun z => ?_) (fun z => ?_))
      · rw [List.getElem?_map, List.getElem?_zipIdx, List.getElem?_eq_getElem z] at hy; exact sn hy
      · exact List.getElem?_eq_none z
    refine W.over i hi _ _ _ _ _ _ g s I o old _ _ R X gt h gI fun h' hs => k h' ?_
    exact Rep.dropY (objs := [(I, enumO it (i : Int) old)]) (fun p hp => by rw [List.mem_singleton.mp hp]; exact plE _ _) (Rep.endY R' hs (W.plain _ _ h))
  · (intro i I objs q8_ p hp; (refine e22 q8_ fun o old q43_ h => ?_; try clear q8_; subst q43_))
    (refine Or.elim (List.mem_cons.mp hp) (fun o259_ => ?_) (fun hp => ?_); subst o259_)
    · exact plE _ _
    · rw [List.mem_singleton.mp hp]; exact W.plain _ _ h
  · (intro i e vars H I objs fz ρ s ys g Q E q9_ R hq; (refine e22 q9_ fun o old q44_ h => ?_; try clear q9_; subst q44_))
    exact wpAny_pyIter_enum (Rep.getY R) hq
theorem enum_call {x : Str} {np pos : Pos} {a0 tgt : Expr} {v : V} {xs : List V} (hf : TE c e vars H (eval (.Name x np) e.env) (.con (.type "enumerate")) H) (ha : TE c e vars H (eval a0 e.env) v H1)
    (he : starEach [a0] e.env = [(false, eval a0 e.env)])
    (hc : ∀ (b : Value) (s : Shared) (fz ys : Lg) (ρ : List Addr) (g : Heap) (Q : Value → Shared → Prop) (E : Value → Shared → Prop), VR fz ρ b v → Rep c e vars H1 fz ρ ys g s.heap s.toks →
      (∀ St I objs h' tk', (∀ fm, Walking { c with fm := fm } tgt fz ρ xs (fun _ => True) St) → St 0 I objs → Rep c e vars H1 fz ρ (objs ++ ys) g h' tk' → wpAny c.M c.A (pyIter (.ref I)) Q E { s with heap := h', toks := tk' }) →
      wpAny c.M c.A (call (.type "enumerate") [b]) (fun v s₁ => wpAny c.M c.A (pyIter v) Q E s₁) E s) :
    ItR c e vars H (.Call (.Name x np) [a0] [] pos) tgt xs (fun _ => True) H1 := fun s fz ys ρ g Q E R k => by
  refine wpAny_Call_Name_kw (hf _ _ _ _ _ _ _ R fun v hh1 tk1 g1 fz1 ρ1 T1 X1 v1 R1 => ?_)
  cases v1
  show wpAny _ _ (callWith pos (.type "enumerate") [] (backTo pos (starEach [a0] e.env)) []) _ _ _
  rw [he]
  refine callWith_of (P := fun h => (top0.heap_1 c.w.params).In h) rfl Kept.type ?_
  refine evalArgs_plain (spliced_cons (ha _ _ _ _ _ _ _ R1 fun b hh2 tk2 g2 fz2 ρ2 T2 X2 v2 R2 => spliced_nil ⟨R2.In, ?_⟩))
  refine hc b _ fz2 ys ρ2 g2 Q E v2 R2 fun St I objs h' tk' W hst R3 => ?_
  exact (W c.fm).self 0 e vars _ I objs fz2 ρ2 _ _ g2 _ _ hst R3 (k fz2 ρ2 g2 St I objs h' tk' (T1.trans T2) (X1.trans X2) W hst R3)
theorem Rep.alloc2 {fz ys : Lg} {ρ : List Addr} {g h h' : Heap} {tk : Nat} {o1 o2 : Obj} (R : Rep c e vars H fz ρ ys g h tk) (f1 : o1.isFreed = false) (f2 : o2.isFreed = false) (h1 : h'.get? h.objs.size = some o1) (h2 : h'.get? (h.objs.size + 1) = some o2)
    (hk : ∀ b o, h.get? b = some o → h'.get? b = some o) : Rep c e vars H fz ρ ((h.objs.size + 1, o2) :: (h.objs.size, o1) :: ys) g h' tk := by
  have R2 := (R.allocY o1 f1).allocY o2 f2
  rw [Heap.size_push] at R2
  refine R2.garbage fun b o q => ?_
  (refine Or.elim (Nat.lt_or_ge b (h.objs.size + 1)) (fun z => ?_) (fun z => ?_))
  · rw [Heap.get?_push_ne _ _ _ (by rw [Heap.size_push]; exact Nat.ne_of_lt z)] at q
    (refine Or.elim (Nat.lt_or_ge b h.objs.size) (fun y => ?_) (fun y => ?_))
    · rw [Heap.get?_push_ne _ _ _ (Nat.ne_of_lt y)] at q; exact hk b o q
    · have : b = h.objs.size := Nat.le_antisymm (Nat.le_of_lt_succ z) y
      subst this
      rw [Heap.get?_push_size _ f1] at q
      (replace q := Option.some.inj q; subst q); exact h1
  · have hb := Heap.lt_size q
    rw [Heap.size_push, Heap.size_push] at hb
    have : b = (h.push o1).objs.size := by rw [Heap.size_push]; exact Nat.le_antisymm (Nat.le_of_lt_succ hb) z
    subst this
    rw [Heap.get?_push_size _ f2] at q
    (replace q := Option.some.inj q; subst q)
    rw [Heap.size_push]; exact h2

theorem ItR_enumS {x : Str} {np pos : Pos} {a0 : Expr} {y : Str} {r : Tok → Prop} {elts : List Expr} {kk : Nat} {tpos : Pos} (hf : TE c e vars H (eval (.Name x np) e.env) (.con (.type "enumerate")) H) (ha : TE c e vars H (eval a0 e.env) (.strP y r) H1) (hy : y.cps.all (· < 128) = true)
    (he : starEach [a0] e.env = [(false, eval a0 e.env)]) : ItR c e vars H (.Call (.Name x np) [a0] [] pos) (.Tuple elts kk tpos) (enumItems (y.cps.toList.map fun k => V.strP ⟨#[k]⟩ fun t => c.n ≤ t)) (fun _ => True) H1 :=
  enum_call hf ha he fun b s fz ys ρ g Q E hb R k => by
    induction hb using VR.strE with
    | k t _ =>
      refine call_enumerate_str fun h' h1 h2 h3 h4 => ?_
      have ety : strIterType y = "str_ascii_iterator" := by unfold strIterType; rw [if_pos hy]
      rw [ety] at h2
      (refine e13 (id h2) fun o ho hoc hod => ?_)
      have fo : o.isFreed = false := (Heap.get?_some_iff.mp ho).2
      have R1 := R.alloc2 (o2 := enumO s.heap.objs.size 0 .none) fo rfl ho h1 h4
      refine k (StE s.heap.objs.size (fun i o => i ≤ y.cps.size ∧ IterSt "str_ascii_iterator" (.str y t) i o)) _ [(_, enumO s.heap.objs.size 0 .none), (_, o)] h' s.toks (fun fm => walking_enum ⟨fun i o h => Plain.fields h.2.2, fun i x hx e vars H fz ys ρ g s o E R X ho hst => ?_, fun i hx e vars H fz ys ρ g s I o old Q E R X ho hst he hq => ?_⟩) ⟨o, .none, rfl, Nat.zero_le _, hoc, hod⟩ R1
      · (revert hst; refine fun q45_ => e02 q45_ fun hin hst => ?_; try clear q45_)
        rw [List.getElem?_map] at hx
        (refine e12 (Option.map_eq_some_iff.mp hx) fun cp e1 e2 => ?_)
        subst e2
        refine wpAny_nextOf_ascii_item (x := y) (i := i) (c := cp) ⟨_, ho, hst.1, hst.2⟩ (by simpa using e1) fun h' hi hs => ?_
        (refine e13 hi fun o' ho' hc' hd' => ?_; try clear hi)
        have hlt : i < y.cps.size := by
          (refine Or.elim (Nat.lt_or_ge i y.cps.size) (fun z => ?_) (fun z => ?_))
          · exact z
          · rw [List.getElem?_eq_none (by simpa using z)] at e1; exact ns e1
        exact ⟨_, _, rfl, hs, Nat.le_succ _, .str _ _ R.lo, o', ho', hlt, hc', hd'⟩
      · rw [List.getElem?_map, Option.map_eq_none_iff] at hx
        (revert hst; refine fun q46_ => e02 q46_ fun hin hst => ?_; try clear q46_)
        have hi : i = y.cps.size := Nat.le_antisymm hin (by simpa using hx)
        subst hi
        exact wpAny_pyNext_enum_endD (Draws.strAscii (t := t) (x := y) rfl _) he ⟨_, ho, hst.1, hst.2⟩ hq
theorem ItR_enumL {x : Str} {np pos : Pos} {a0 : Expr} {xs : List V} {elts : List Expr} {kk : Nat} {tpos : Pos} (hf : TE c e vars H (eval (.Name x np) e.env) (.con (.type "enumerate")) H) (ha : TE c e vars H (eval a0 e.env) (.lst xs) H1)
    (he : starEach [a0] e.env = [(false, eval a0 e.env)]) : ItR c e vars H (.Call (.Name x np) [a0] [] pos) (.Tuple elts kk tpos) (enumItems xs) (fun _ => True) H1 :=
  enum_call hf ha he fun b s fz ys ρ g Q E hb R k => by
    induction hb using VR.lstE with
    | k hm hr =>
      rename_i a vs n
      refine call_enumerate_list (l := a) (items := vs.toArray) ⟨_, R.getF hm, rfl, n, rfl⟩ fun h' h1 h2 h3 h4 => ?_
      (refine e13 (id h2) fun o ho hoc hod => ?_)
      have fo : o.isFreed = false := (Heap.get?_some_iff.mp ho).2
      have R1 := R.alloc2 (o2 := enumO s.heap.objs.size 0 .none) fo rfl ho h1 h4
      refine k (StE s.heap.objs.size (IterSt "list_iterator" (.ref a))) _ [(_, enumO s.heap.objs.size 0 .none), (_, o)] h' s.toks (fun fm => walking_enum ⟨fun i o h => Plain.fields (vs := #[.ref a, .int i 0]) h.2, fun i x hx e vars H fz ys ρ g s o E R X ho hst => ?_, fun i hx e vars H fz ys ρ g s I o old Q E R X ho hst he hq => ?_⟩) ⟨o, .none, rfl, hoc, hod⟩ R1
      · (refine e12 (hr.get hx) fun v e1 hv => ?_)
        refine wpAny_nextOf_list_item (items := vs.toArray) (x := v) (l := a) (i := i) ⟨_, ho, hst.1, hst.2⟩ ⟨_, R.getF (X.sub _ hm), rfl, n, rfl⟩ (by simpa using e1) fun h' hi hs => ?_
        (refine e13 hi fun o' ho' hc' hd' => ?_; try clear hi)
        exact ⟨_, _, rfl, hs, Nat.le_refl _, hv.ext X, o', ho', hc', hd'⟩
      · exact wpAny_pyNext_enum_end (items := vs.toArray) (l := a) (i := i) rfl he ⟨_, ho, hst.1, hst.2⟩ ⟨_, R.getF (X.sub _ hm), rfl, n, rfl⟩ (by simpa using hr.none hx) hq
end Mine
end

section
open PySem PySem.W PyProof.Rows PySem.Calls PyProof.Rows.LCg
set_option Elab.async false
set_option linter.all false
set_option maxRecDepth 100000
set_option maxHeartbeats 1000000
namespace Mine
variable {c : Amb} {e : Sc} {vars vars' vars'' : Vars} {H H1 H2 H3 : List MO}
theorem isSame_coh {M : Model} {A : Around} {E : Value → Shared → Prop} {s : Shared} {Q : Bool → Shared → Prop} {x y : Int} {t₀ : Nat} (h0 : 1 ≤ t₀) (hx : 0 ≤ x ∧ x ≤ 256) (hy : 0 ≤ y ∧ y ≤ 256) (h : Q (x == y) s) : wpAny M A (isSame (.int x (t₀ + x.toNat)) (.int y (t₀ + y.toNat))) Q E s := by
  show wpAny M A (if x == y && smallInt x then isSame.cachedInt (t₀ + x.toNat) (t₀ + y.toNat) else isSame.created (x == y) (t₀ + x.toNat) (t₀ + y.toNat)) Q E s
  have n1 : (t₀ + x.toNat == 0) = false := by simp; lia
  have n2 : (t₀ + y.toNat == 0) = false := by simp; lia
  cases hxy : (x == y) with
  | true =>
    rw [hxy] at h
    have hs : smallInt x = true := by unfold smallInt; simp; lia
    rw [hs]
    simp only [Bool.and_self, if_true]
    unfold isSame.cachedInt
    rw [n1, n2]
    simp only [Bool.or_self, Bool.false_eq_true, if_false]
    exact wpAny_bind (wpAny_rule (wpAny_pure h))
  | false =>
    rw [hxy] at h
    simp only [Bool.false_and, Bool.false_eq_true, if_false]
    unfold isSame.created
    have hne : x ≠ y := by simpa using hxy
    have n3 : (t₀ + x.toNat == t₀ + y.toNat) = false := by simp; lia
    rw [n1, n2, n3]
    simp only [Bool.or_self, Bool.false_eq_true, if_false]
    exact wpAny_pure h
theorem TB_isorI {l r l2 r2 : Expr} {p1 p2 p3 : Pos} {x y : Int} {t₀ : Nat} {whole : Sem Value} (h1 : TE c e vars H (eval l e.env) (.intP x (· = t₀ + x.toNat)) H) (h2 : TE c e vars H (eval r e.env) (.intP y (· = t₀ + y.toNat)) H) (h3 : TE c e vars H (eval l2 e.env) (.intP x (· = t₀ + x.toNat)) H) (h4 : TE c e vars H (eval r2 e.env) (.intP y (· = t₀ + y.toNat)) H)
    (h0 : 1 ≤ t₀) (hx : 0 ≤ x ∧ x ≤ 256) (hy : 0 ≤ y ∧ y ≤ 256) (hm : behindInMarks .Is r = false) (hm2 : behindInMarks .Eq r2 = false) :
    TB c e vars H (isTrue (.BoolOp .Or [.Compare l [.Is] [r] p1, .Compare l2 [.Eq] [r2] p2] p3) e.env whole) (x == y) H := fun s fz ys ρ g Q E R k => by
  refine isTrue_or (wpAny_isTrue_Compare1 (h1 _ _ _ _ _ _ _ R fun a hh1 tk1 g1 fz1 ρ1 T1 X1 v1 R1 => ?_) hm)
  refine h2 _ _ _ _ _ _ _ R1 fun b hh2 tk2 g2 fz2 ρ2 T2 X2 v2 R2 => ?_
  induction v1 using VR.intE with
  | k t ht1 =>
    induction v2 using VR.intE with
    | k u hu1 =>
      subst ht1 hu1
      have rest : wpAny c.M c.A (isTrue (.BoolOp .Or [.Compare l2 [.Eq] [r2] p2] p3) e.env whole) Q E { s with heap := hh2, toks := tk2 } := by
        refine isTrue_or (wpAny_isTrue_Compare1 (h3 _ _ _ _ _ _ _ R2 fun a hh3 tk3 g3 fz3 ρ3 T3 X3 v3 R3 => ?_) hm2)
        refine h4 _ _ _ _ _ _ _ R3 fun b hh4 tk4 g4 fz4 ρ4 T4 X4 v4 R4 => ?_
        refine PO_eqI _ _ _ _ _ _ _ _ _ R4 (v3.ext X4) v4 fun v hh5 tk5 g5 fz5 ρ5 T5 X5 v5 R5 => ?_
        cases v5
        refine wpAny_truthy_bool ?_
        cases hxy : (x == y) with
        | true => exact k _ hh5 tk5 g5 fz5 ρ5 ((((T1.trans T2).trans T3).trans T4).trans T5) ((((X1.trans X2).trans X3).trans X4).trans X5) hxy.symm R5
        | false => exact isTrue_or_nil (k _ hh5 tk5 g5 fz5 ρ5 ((((T1.trans T2).trans T3).trans T4).trans T5) ((((X1.trans X2).trans X3).trans X4).trans X5) hxy.symm R5)
      show wpAny _ _ (do return Value.bool (← isSame (.int x (t₀ + x.toNat)) (.int y (t₀ + y.toNat)))) _ _ _
      refine wpAny_bind (isSame_coh h0 hx hy (wpAny_pure (wpAny_truthy_bool ?_)))
      cases hxy : (x == y) with
      | true => exact k _ hh2 tk2 g2 fz2 ρ2 (T1.trans T2) (X1.trans X2) hxy.symm R2
      | false => exact rest
end Mine
end

section
open PySem PySem.W PyProof.Rows PySem.Calls PyProof.Rows.LCg
set_option Elab.async false
set_option linter.all false
set_option maxRecDepth 100000
set_option maxHeartbeats 1000000
namespace Mine
variable {c : Amb} {e : Sc} {vars vars' vars'' : Vars} {H H1 H2 H3 : List MO}
theorem Vs.D0_map (xs : List V) : Vs.D0 xs = xs.map V.D0 := by
  induction xs with
  | nil => rfl
  | cons x r ih => unfold Vs.D0; rw [ih]; rfl
theorem PO_neNil0 {i : Nat} (hi : H[i]? = some (.list [])) (hu : c.un + 64 < cLine) : PO c e vars H (compareOp .NotEq) (.obj i) (.lst []) (.bool false) H := by
  have e1 : (V.obj i).D H = .list [] := by simp only [V.D, hi]; rfl
  exact PO_neV (by rw [e1]; rfl) rfl hu (by rw [e1]; exact neV_false rfl)
theorem PO_neNil1 {i : Nat} {xs : List V} {x : V} (hi : H[i]? = some (.list (xs ++ [x]))) (hk : ∀ y ∈ xs ++ [x], kqdOk 7 y.D0 = true) (hu : c.un + 64 < cLine) : PO c e vars H (compareOp .NotEq) (.obj i) (.lst []) (.bool true) H := by
  have e1 : (V.obj i).D H = .list ((xs ++ [x]).map V.D0) := by simp only [V.D, hi]; rw [Vs.D0_map]
  refine PO_neV (by rw [e1]; unfold kqdOk; rw [List.all_map, List.all_eq_true]; exact hk) rfl hu ?_
  rw [e1]
  refine neV_true fun q => ?_
  have e2 : (V.lst []).D H = .list [] := rfl
  rw [e2] at q
  injection q with q
  simp at q
theorem plain_ok {x : Str} (h : x.cps.all plainCh = true) : PyData.strOk x = true := by
  unfold PyData.strOk
  rw [Array.all_eq_true] at h ⊢
  intro i hi
  have := h i hi
  unfold plainCh at this
  simp at this ⊢
  lia
theorem TS1_weak {s : Stmt} {f : Fl} {vars1 : Vars} (h : TS1 c e vars H s f vars1 H1) (k : ∀ x v, vars'.lookup x = some v → vars1.lookup x = some v) : TS1 c e vars H s f vars' H1 := fun s fz ys ρ g Q E R kk =>
  h _ _ _ _ _ _ _ R fun v h' tk' g' fz' ρ' T X p R' => kk v h' tk' g' fz' ρ' T X p (R'.forget k)
theorem TS_while' {test : Expr} {body rest : List Stmt} {pos : Pos} {f : Fl} {H' : List MO} (I : Nat → Vars → List MO → Prop) (Done : Vars → List MO → Prop) (n : Nat) (hI : I n vars H)
    (step : ∀ n vars H, I n vars H → (∃ H1, TB c e vars H (isTrue test e.env (eval test e.env)) false H1 ∧ Done vars H1) ∨
      (∃ H1 fl vars1 H2, TB c e vars H (isTrue test e.env (eval test e.env)) true H1 ∧ TS c e vars H1 body fl vars1 H2 ∧ ((fl.goes = true ∧ ∃ m, m < n ∧ I m vars1 H2) ∨ (∃ x, fl = .ret x ∧ vars1 = [] ∧ H2 = H' ∧ f = .ret x ∧ vars' = []))))
    (hdone : ∀ vars H, Done vars H → TS c e vars H rest f vars' H') : TS c e vars H (.While test body [] pos :: rest) f vars' H' := by
  refine TS_while I Done n hI (fun n vars H h => ?_) hdone
  (refine Or.elim (step n vars H h) (fun o260_ => ?_) (fun o261_ => ?_); rotate_left 1; (refine e43 o261_ fun H1 fl vars1 H2 a b q31_ => ?_; try clear o261_; rcases q31_ with ⟨d, m, hm, hI⟩ | ⟨x, rfl, rfl, rfl, e1, e2⟩); rotate_right 1; (refine e12 o260_ fun H1 a b => ?_; try clear o260_))
  · exact .inl ⟨H1, a, b⟩
  · exact .inr (.inl ⟨H1, H2, fl, vars1, m, a, b, d, hm, hI⟩)
  · exact .inr (.inr (.inr ⟨H1, x, a, b, e1, e2⟩))
theorem MeetsA.le {w : World} {lv lv' n : Nat} {f : Value} {mk : List Value → Args} {xs : List V} {r : V} {H' : List MO} (h : MeetsA w lv n f mk xs H r H') (hl : lv ≤ lv') : MeetsA w lv' n f mk xs H r H' :=
  fun c s m fz ys ρ os g vs Q E hw G hs R => h c s m fz ys ρ os g vs Q E hw G hs (R.le hl)
end Mine
end

section
open PySem PySem.W PyProof.Rows PySem.Calls PyProof.Rows.LCg
set_option Elab.async false
set_option linter.all false
set_option maxRecDepth 100000
set_option maxHeartbeats 1000000
namespace Mine
variable {c : Amb} {e : Sc} {vars vars' vars'' : Vars} {H H1 H2 H3 : List MO}
theorem PC_isint {i : Int} {r : Tok → Prop} : PC c e vars H (.builtin "isinstance") [.intP i r, .con (.type "int")] (.bool true) H := fun vs s fz ys ρ g Q E R hv k => by
  induction hv using VRs.consE with
  | k a b =>
    induction b using VRs.consE with
    | k b d =>
      induction d using VRs.nilE; cases b; induction a using VR.intE
      exact PySem.IsiPair.int_int (k _ s.heap s.toks g fz ρ KtsTurn.refl Ext.refl (.bool _) R)
end Mine
end

section
open PySem PySem.W PyProof.Rows PySem.Calls PyProof.Rows.LCg
set_option Elab.async false
set_option linter.all false
set_option maxRecDepth 100000
set_option maxHeartbeats 1000000
namespace Mine
variable {c : Amb} {e : Sc} {vars vars' vars'' : Vars} {H H1 H2 H3 : List MO}
noncomputable abbrev iK (w : World) := intKind PySem.Challenge.rw_kl0209_01.row.prog w
section
variable {prog : Program} {w : World} {K : Type} [DecidableEq K] {knd : KeyKind prog w K} {A : Around} {E : Value → Shared → Prop} {s : Shared}
theorem dictSetNew {d : Addr} {o : Obj} {des : Array DictEntry} {kvs : List (K × Value)} {ep : Nat} {k : K} {key v : Value} {Q : Unit → Shared → Prop} (hkey : knd.is k key = true) (ho : s.heap.get? d = some o) (hc : o.ExactDict) (hd : o.data = .dict des ep) (hk : KeysOf knd des)
    (hp : Pairs knd des.toList kvs) (hnew : k ∉ kvs.map (·.1)) (hsz : kvs.length ≤ 1000)
    (hQ : ∀ h' o', h'.get? d = some o' → o'.ExactDict → o'.data = .dict (des.push ⟨knd.hash k, key, v⟩) (ep + 1) → Heap.SameBut d s.heap h' → Q () { s with heap := h', toks := s.toks + 1 }) :
    wpAny (model prog w) A (dictSet d key v) Q E s := by
  have hz : des.size ≤ sizeLine := by
    have e1 := hp.length
    have e2 : des.toList.length = des.size := by simp
    rw [sizeLine_eq]; lia
  have hnone : (des.findIdx? fun e => knd.is k e.key) = none := by
    have e1 : (des.findIdx? fun e => knd.is k e.key) = kvs.findIdx? fun kv => decide (kv.1 = k) := by
      rw [← hp.findIdx k]; obtain ⟨l⟩ := des; simp
    rw [e1, List.findIdx?_eq_none_iff]
    intro x hx
    refine decide_eq_false fun q => hnew ?_
    rw [← q]; exact List.mem_map.mpr ⟨x, hx, rfl⟩
  unfold dictSet
  try with_reducible refine wpAny_holding ?_
  refine wpAny_bind (knd.pyHash hkey ?_)
  unfold dictSetHashed
  try with_reducible refine wpAny_holding ?_
  refine wpAny_bind (wpAny_dictFind_of (s := { s with toks := s.toks + 1 }) hkey ho hd hk ?_)
  rw [hnone]
  exact wpAny_bind (wpAny_rule (wpAny_updateDictKeys (hz := hz) (s := { s with toks := s.toks + 1 }) ho hd (hQ _ _ (Heap.get?_update_self _ ho (Obj.isFreed_of_dict (Obj.data_mapDictKeys hd _))) (hc.mapDictKeys _) (Obj.data_mapDictKeys hd _) (Heap.SameBut.update ..))))
end
theorem Rep.dictAt {fz ys : Lg} {ρ : List Addr} {g h : Heap} {tk : Nat} (R : Rep c e vars H fz ρ ys g h tk) {i : Nat} {es : List (Int × V)} {v : Value} (q : H[i]? = some (.dict es)) (hv : VR fz ρ v (.obj i)) :
    ∃ (d : Addr) (o : Obj) (kvs : List (Int × Value)) (des : Array DictEntry), v = .ref d ∧ ρ[i]? = some d ∧ h.get? d = some o ∧ (d == sysModules) = false ∧ o.ExactDict ∧ o.data = .dict des es.length ∧ KeysOf (iK c.w) des ∧ Pairs (iK c.w) des.toList kvs ∧ (kvs.map (·.1)).Nodup ∧
      kvs.map (·.1) = es.map (·.1) ∧ VRs fz ρ (kvs.map (·.2)) (es.map (·.2)) := by
  induction hv using VR.objE with
  | k ha =>
    obtain ⟨m, os, xs, l, r, f⟩ := R.ex
    have hlo := r.lo _ _ _ q ha
    (refine e23 (R.get q) fun a' o h1 h2 h3 => ?_)
    rw [ha] at h1; (replace h1 := Option.some.inj h1; subst h1)
    cases h3 with
    | dict hd =>
      (refine e26 hd fun kvs des a1 a2 a3 a4 a5 q47_ => ?_; try clear hd; (refine e02 q47_ fun a6 a7 => ?_; try clear q47_))
      exact ⟨_, o, kvs, des, rfl, ha, h2, hlo, a1, a2, a3, a4, a5, a6, a7⟩
theorem TE_dict0 {pos : Pos} (hz : ∃ oc od d sl, (top0.heap_1 c.w.params).lookup 286 = some ⟨oc, od, d, sl⟩) : TE c e vars H (eval (.Dict [] [] pos) e.env) (.obj H.length) (H ++ [.dict []]) := fun s fz ys ρ g Q E R k => by
  rw [eval_Dict_empty]
  have hlen : ρ.length = H.length := by obtain ⟨_, _, _, _, q, _⟩ := R.ex; exact q.lenH.symm
  refine wpAny_bind (wpAny_standAt ?_)
  refine wpAny_newObj_type ?_
  refine k _ _ s.toks g fz (ρ ++ [s.heap.objs.size]) KtsTurn.refl Ext.snoc (.obj (by rw [← hlen]; simp)) (R.allocM (o := { cls := .type "dict", data := .dict #[] }) (.dict ⟨[], #[], ⟨rfl, rfl, rfl⟩, rfl, fun x hx => by simp at hx, .nil, List.nodup_nil, rfl, .nil⟩) rfl fun es he => ?_)
  (revert hz; refine fun q48_ => e41 q48_ fun oc od dd sl hz => ?_; try clear q48_)
  have h286 := Heap.lt_size (R.In _ _ hz)
  rw [beq_eq_false_iff_ne]
  exact fun q => by rw [q] at h286; exact absurd h286 (by decide)
theorem TS1_setD {o ix value : Expr} {spos pos : Pos} {y : V} {i : Nat} {k : Int} {r : Tok → Prop} {es : List (Int × V)} (h0 : TE c e vars H (eval value e.env) y H) (h1 : TE c e vars H (eval o e.env) (.obj i) H) (h2 : TE c e vars H (eval ix e.env) (.intP k r) H) (hi : H[i]? = some (.dict es))
    (hnew : k ∉ es.map (·.1)) (hl : es.length ≤ 1000) (hsw : swapsWith value (some (.Subscript o ix spos)) pos.line e.env = pure false) : TS1 c e vars H (.Assign [.Subscript o ix spos] value pos) .next vars (H.set i (.dict (es ++ [(k, y)]))) := fun s fz ys ρ g Q E R kk => by
  refine wpAny_Assign_Subscript (h0 _ _ _ _ _ _ _ R fun yv hh0 tk0 g0 fz0 ρ0 T0 X0 v0 R0 => ?_) hsw
  refine h1 _ _ _ _ _ _ _ R0 fun ov hh1 tk1 g1 fz1 ρ1 T1 X1 v1 R1 => ?_
  refine h2 _ _ _ _ _ _ _ R1 fun xv hh2 tk2 g2 fz2 ρ2 T2 X2 v2 R2 => ?_
  (refine e46 (R2.dictAt hi (v1.ext X2)) fun d od kvs des q49_ hρ hd hlo a1 q50_ => ?_; subst q49_; (refine e06 q50_ fun a2 a3 a4 a5 a6 a7 => ?_; try clear q50_))
  induction v2 using VR.intE with
  | k t ht =>
    have hlen : kvs.length = es.length := by have := congrArg List.length a6; simpa using this
    have hT : ({ s with heap := hh2, toks := tk2 } : Shared).TypeIs (.ref d) "dict" := ⟨od, hd, a1.1⟩
    unfold setItem
    try with_reducible refine wpAny_holding ?_
    refine wpAny_bind (wpAny_sequenceKey hT (by decide) ?_)
    refine wpAny_bind (wpAny_callSpecial?_slot (name := Str.ofString "__setitem__") hT slot_dict_setitem
      (wpAny_call_entry slot_dict_setitem hT entry_dict_setitem ?_ (args_dict_setitem _ _ _)))
    show wpAny _ _ (Builtin.Dict.notOrdered "__setitem__" ⟨[.ref d, .int k t, yv], []⟩ >>= _) _ _ _
    refine wpAny_bind (wpAny_notOrdered_dict hT ?_)
    show wpAny _ _ (dictSet d (.int k t) yv >>= _) _ _ _
    have hkey : (iK c.w).is k (.int k t) = true := by show Value.isInt k (.int k t) = true; simp [Value.isInt]
    refine wpAny_bind (dictSetNew (knd := iK c.w) hkey hd a1 a2 a3 a4 (by rw [a6]; exact hnew) (by lia) fun h' o' b1 b2 b3 b4 => wpAny_pure ⟨.none, rfl, wpAny_pure ?_⟩)
    refine kk .next h' (tk2 + 1) g2 fz2 ρ2 ((T0.trans T1).trans T2) ((X0.trans X1).trans X2) .next ((Rep.update R2 hρ b4 b1 (mo' := .dict (es ++ [(k, y)])) (.dict ⟨kvs ++ [(k, yv)], des.push ⟨(iK c.w).hash k, .int k t, yv⟩, b2, by rw [b3, List.length_append]; rfl, a3.push hkey _, ?_, ?_, ?_, ?_⟩) (fun _ _ => hlo)).up (Nat.le_succ _))
    · rw [Array.toList_push]; exact a4.append hkey _ _
    · rw [List.map_append, List.nodup_append]
      refine ⟨a5, by simp, fun x hx z hz => ?_⟩
      simp at hz; subst hz
      rw [a6] at hx
      exact fun q => hnew (q ▸ hx)
    · rw [List.map_append, List.map_append, a6]; rfl
    · rw [List.map_append, List.map_append]; exact a7.append (.cons ((v0.ext X1).ext X2) .nil)
theorem valueAt_get {kvs : List (Int × Value)} (hn : (kvs.map (·.1)).Nodup) {j : Nat} {k : Int} {v : Value} (h : kvs[j]? = some (k, v)) : valueAt kvs k = some v := by
  unfold valueAt
  induction kvs generalizing j with
  | nil => simp at h
  | cons p r ih =>
    rw [List.map_cons, List.nodup_cons] at hn
    cases j with
    | zero => simp at h; subst h; simp
    | succ j =>
      simp at h
      have hne : p.1 ≠ k := fun q => hn.1 (q ▸ List.mem_map.mpr ⟨_, List.mem_of_getElem? h, rfl⟩)
      rw [List.find?_cons_of_neg (by simpa using hne)]
      exact ih hn.2 h
theorem PO_itemD {i j : Nat} {k : Int} {r : Tok → Prop} {es : List (Int × V)} {x : V} {value slice : Expr} (hi : H[i]? = some (.dict es)) (hx : es[j]? = some (k, x))
    (hs : ∀ a t, subscripted slice false (.ref a) (.int k t) = operate [.ref a, .int k t] (getItem (.ref a) (.int k t))) : PO c e vars H (subscriptTail value slice) (.obj i) (.intP k r) x H := fun a b s fz ys ρ g Q E R ha hb kk => by
  (refine e46 (R.dictAt hi ha) fun d od kvs des q51_ hρ hd hlo a1 q52_ => ?_; subst q51_; (refine e06 q52_ fun a2 a3 a4 a5 a6 a7 => ?_; try clear q52_))
  induction hb using VR.intE with
  | k t ht =>
    have hx2 : (es.map (·.2))[j]? = some x := by rw [List.getElem?_map, hx]; rfl
    (refine e12 (a7.get hx2) fun v hv1 hv2 => ?_)
    have hk1 : (kvs.map (·.1))[j]? = some k := by rw [a6, List.getElem?_map, hx]; rfl
    have hkv : kvs[j]? = some (k, v) := by
      rw [List.getElem?_map] at hv1 hk1
      (refine e12 (Option.map_eq_some_iff.mp hv1) fun p p1 p2 => ?_)
      rw [p1] at hk1
      simp at hk1
      rw [p1]; rw [← hk1, ← p2]
    have hD : s.heap.DictOf (iK c.w) d kvs := ⟨od, des, _, hd, a1, a2, a3, a4, a5⟩
    have hkey : (iK c.w).is k (.int k t) = true := by show Value.isInt k (.int k t) = true; simp [Value.isInt]
    refine tail_any (T := "dict") ⟨od, hd, a1.1⟩ slot_dict_getitem.lookup (wpAny_getItem_of (knd := iK c.w) hkey hD.mapOf (valueAt_get a5 hkv) ?_) (hs _ _)
    exact kk v s.heap (s.toks + 1) g fz ρ KtsTurn.refl Ext.refl hv2 (R.up (Nat.le_succ _))
theorem walk_dict {tgt : Expr} {n : Nat} {es : List (Int × V)} : Walk c tgt (.obj n) (es.map fun p => V.int p.1) (fun H => H[n]? = some (.dict es)) := fun v fz₀ ρ₀ hv => by
  induction hv using VR.objE with
  | k ha =>
    rename_i a
    have key : ∀ {c : Amb} {e : Sc} {vars : Vars} {H : List MO} {fz ys : Lg} {ρ : List Addr} {g h : Heap} {tk : Nat}, Rep c e vars H fz ρ ys g h tk → H[n]? = some (.dict es) → Ext fz₀ fz ρ₀ ρ → ∃ kvs, h.DictAt (iK c.w) a kvs es.length ∧ kvs.map (·.1) = es.map (·.1) ∧ (a == sysModules) = false := fun R hH X => by
      (refine e46 (R.dictAt hH (.obj (X.pre _ _ ha))) fun d od kvs des e1 hρ hd hlo a1 q53_ => ?_; (refine e06 q53_ fun a2 a3 a4 a5 a6 a7 => ?_; try clear q53_))
      cases e1
      exact ⟨kvs, ⟨od, des, hd, a1, a2, a3, a4, a5⟩, a6, hlo⟩
    refine ⟨St1 fun i o => o.cls = .type "dict_keyiterator" ∧ o.data = .fields #[.ref a, .int i 0, .int es.length 0, .int es.length 0], fun fm => walking1 (n := "dict_keyiterator") (fl := fun i => #[.ref a, .int i 0, .int es.length 0, .int es.length 0]) (fun i o h => h) (by decide) (fun i I o s Q E h ho hq => wpAny_pyIter_keyiter (d := a) (i := i) (n := es.length) (ep := es.length) ⟨_, ho, h.1, h.2⟩ hq)
      (fun i x hx e vars H I o fz ρ s ys g Q E hH X hst R k => ?_) (fun i hx e vars H I o fz ρ s ys g Q E hH X hst R k => ?_), fun e vars H s ys g Q E hH R k => ?_⟩
    · (refine e13 (key R hH X) fun kvs hD hk hlo => ?_)
      have hl : kvs.length = es.length := by have := congrArg List.length hk; simpa using this
      rw [List.getElem?_map] at hx
      (refine e12 (Option.map_eq_some_iff.mp hx) fun p p1 p2 => ?_)
      subst p2
      have hk1 : (kvs.map (·.1))[i]? = some p.1 := by rw [hk, List.getElem?_map, p1]; rfl
      rw [List.getElem?_map] at hk1
      (refine e12 (Option.map_eq_some_iff.mp hk1) fun q q1 q2 => ?_)
      refine wpAny_pyNext_dict_item (d := a) (i := i) (kvs := kvs) (ep := es.length) (k := q.1) (v := q.2) ⟨_, R.getY, hst.1, by rw [hl]; exact hst.2⟩ hD q1 fun key h' hkey hi hs => ?_
      (refine e13 hi fun o' ho' hc' hd' => ?_; try clear hi)
      (refine Exists.elim (Value.isInt_shape (hkey : Value.isInt q.1 key = true)) fun t q54_ => ?_; subst q54_)
      refine k _ h' s.toks o' (Nat.le_refl _) (by rw [q2]; exact .int _ _ trivial) hs.extBut ho' ⟨hc', by rw [hl] at hd'; exact hd'⟩
    · (refine e13 (key R hH X) fun kvs hD hk hlo => ?_)
      have hl : kvs.length = es.length := by have := congrArg List.length hk; simpa using this
      refine wpAny_pyNext_dict_end (d := a) (i := i) (kvs := kvs) (ep := es.length) rfl ⟨_, R.getY, hst.1, by rw [hl]; exact hst.2⟩ hD ?_ k
      rw [List.getElem?_map, Option.map_eq_none_iff] at hx
      rw [List.getElem?_eq_none_iff] at hx ⊢
      lia
    · (refine e13 (key R hH Ext.refl) fun kvs hD hk hlo => ?_)
      have hl : kvs.length = es.length := by have := congrArg List.length hk; simpa using this
      refine wpAny_pyIter_dict hlo hD ?_
      rw [hl]
      exact k _ _ _ s.toks ⟨_, rfl, rfl, rfl⟩ (R.allocY _ rfl)
end Mine
end

section
open PySem PySem.W PyProof.Rows PySem.Calls PyProof.Rows.LCg
set_option Elab.async false
set_option linter.all false
set_option maxRecDepth 100000
set_option maxHeartbeats 1000000
namespace Mine
variable {c : Amb} {e : Sc} {vars vars' vars'' : Vars} {H H1 H2 H3 : List MO}
theorem ints_vr {fz : Lg} {ρ : List Addr} : ∀ {vs : List Value} {ns : List Int}, IntsAre vs ns → VRs fz ρ vs (ns.map V.int)
  | _, _, .nil => .nil
  | _, _, .cons n t h => .cons (.int n t trivial) (ints_vr h)
theorem vr_ints {fz : Lg} {ρ : List Addr} : ∀ {vs : List Value} {ns : List Int}, VRs fz ρ vs (ns.map V.int) → IntsAre vs ns
  | _, [], .nil => .nil
  | _, n :: ns, .cons h r => by
    induction h using VR.intE with
    | k t _ => exact .cons n t (vr_ints r)
theorem vr_coh {fz : Lg} {ρ : List Addr} {t₀ : Nat} {vs : List Value} {ns : List Int} (h : VRs fz ρ vs (cohL t₀ ns)) : IntsAre vs ns := by
  rw [vrs_coh h]
  clear h
  induction ns with
  | nil => exact .nil
  | cons n ns ih => exact .cons n _ ih
theorem ints_of : ∀ {vs : List Value} {ks : List Int}, vs.length = ks.length → (∀ (j : Nat) (v : Value), vs[j]? = some v → ∃ k, ks[j]? = some k ∧ ∃ t, v = .int k t) → IntsAre vs ks
  | [], [], _, _ => .nil
  | v :: vs, k :: ks, hl, h => by
    (refine e12 (h 0 v rfl) fun k' h1 q33_ => ?_; obtain ⟨t, rfl⟩ := q33_)
    simp at h1; subst h1
    exact .cons _ _ (ints_of (by simpa using hl) fun j u hu => h (j + 1) u (by simpa using hu))
theorem PC_sortedD {i : Nat} {es : List (Int × V)} (hi : H[i]? = some (.dict es)) (hs : (es.map (·.1)).Pairwise (· ≤ ·)) (hl : es.length < 60) : PC c e vars H (.builtin "sorted") [.obj i] (.lst ((es.map (·.1)).map V.int)) H := fun vs s fz ys ρ g Q E R hv k => by
  induction hv using VRs.consE with
  | k a b =>
    induction b using VRs.nilE
    (refine e46 (R.dictAt hi a) fun d od kvs des q55_ hρ hd hlo a1 q56_ => ?_; subst q55_; (refine e06 q56_ fun a2 a3 a4 a5 a6 a7 => ?_; try clear q56_))
    have hlen : kvs.length = es.length := by have := congrArg List.length a6; simpa using this
    (refine e25 (R.openN) fun m news F' N' _ _ ad => ?_)
    refine wpAny_with_toks (Nat.le_refl s.toks) ?_
    refine kdu_sorted (kdl_dict (knd := iK c.w) (kvs := kvs) (ep := es.length) hlo) rfl F' N' ⟨od, des, hd, a1, a2, a3, a4, a5⟩ (by rw [sizeLine_eq]; lia) fun D h' tk vs F2 N2 l1 hl2 hv2 => ?_
    have hI : IntsAre vs (es.map (·.1)) := ints_of (by rw [hl2, hlen]; simp) fun j v hj => by
      (refine e22 (hv2 j v hj) fun kk x q1 q2 => ?_)
      (refine Exists.elim (Value.isInt_shape (q2 : Value.isInt kk v = true)) fun t q57_ => ?_; subst q57_)
      exact ⟨kk, by rw [← a6, List.getElem?_map, q1]; rfl, t, rfl⟩
    have z := N2 _ (.head _)
    refine wpAny_call_entry PyProof.Rows.slot_list_sort ⟨_, z.1, rfl⟩ PyProof.Rows.entry_list_sort (list_sort_tree (n := 0) (vs := vs) (ns := es.map (·.1)) z.1 hI (by rw [hl2, hlen]; lia) fun out ns' hI2 hp hP => ⟨.none, rfl, ?_⟩) (PyProof.Rows.args_list_sort _)
    have e1 : ns' = es.map (·.1) := lks_uniq hp hP hs
    subst e1
    intro hle
    (refine Exists.elim (sortedHeap_at (h := h') (a := D) (vs := vs) (out := out) z.1) fun ep hat => ?_)
    have old : ∀ b o, b ≠ D → h'.get? b = some o → (sortedHeap h' D vs out).get? b = some o := fun b o hb q => (sortedHeap_old hb (Heap.lt_size q)).trans q
    have hDn : ∀ q ∈ news, q.1 ≠ D := fun q hq => Nat.ne_of_lt (l1 q hq)
    have F3 : Fr g c.L (sortedHeap h' D vs out) m := by
      refine ⟨?_, fun b o q => old b o (fun z2 => by rw [z2, z.2.2] at q; exact ns q) (F2.keep b o q), F2.above⟩
      (refine e34 (F2.ns) fun oL es2 ep2 h1 h2 h3 h4 => ?_)
      exact ⟨oL, es2, ep2, old _ _ (fun z2 => z.2.1 z2.symm) h1, h2, h3, h4⟩
    have N3 : News g c.L (sortedHeap h' D vs out) ((D, lstO out.toList ep) :: news) := fun p hp => by
      (refine Or.elim (List.mem_cons.mp hp) (fun o262_ => ?_) (fun hp => ?_); subst o262_)
      · exact ⟨by rw [hat], z.2⟩
      · have := N2 p (.tail _ hp)
        exact ⟨old _ _ (hDn p hp) this.1, this.2⟩
    exact k _ _ tk g _ ρ KtsTurn.refl Ext.cons (.lst (.head _) (ints_vr hI2)) ((ad _ D _ F3 N3 l1).up hle)
theorem PC_min {ns : List Int} {M : Int} (hne : 0 < ns.length) (hm : M ∈ ns) (hle : ∀ a ∈ ns, M ≤ a) : PC c e vars H (.builtin "min") [.lst (ns.map V.int)] (.int M) H := fun vs s fz ys ρ g Q E R hv k => by
  induction hv using VRs.consE with
  | k a b =>
    induction b using VRs.nilE
    induction a using VR.lstE with
    | k hmem hr =>
      obtain ⟨m, os, xs, l, q, f⟩ := R.ex
      refine wpAny_with_toks (Nat.le_refl s.toks) (kso_min l.F l.N ⟨_, R.getF hmem, rfl, _, rfl⟩ (vr_ints hr) hne rfl fun h' M' t tk F2 N2 h1 h2 => ?_)
      intro hle2
      have : M' = M := Int.le_antisymm (h2 M hm) (hle M' h1)
      subst this
      exact k _ h' tk g fz ρ KtsTurn.refl Ext.refl (.int _ _ trivial) ⟨R.gr, Nat.le_trans R.lo hle2, R.env, m, os, xs, ⟨F2, N2, l.nd, l.ap⟩, q, f⟩
end Mine
end

section
open PySem PySem.W PyProof.Rows PySem.Calls PyProof.Rows.LCg
set_option Elab.async false
set_option linter.all false
set_option maxRecDepth 100000
set_option maxHeartbeats 1000000
namespace Mine
variable {c : Amb} {e : Sc} {vars vars' vars'' : Vars} {H H1 H2 H3 : List MO}
noncomputable def cohA (t₀ i : Nat) : List Value := (List.range i).map fun (j : Nat) => Value.int (j : Int) (t₀ + j)
theorem cohA_succ (t₀ i : Nat) : cohA t₀ (i + 1) = cohA t₀ i ++ [.int (i : Int) (t₀ + i)] := by unfold cohA; rw [List.range_succ, List.map_append]; rfl
section
variable {prog : Program} {w : World} {A : Around}
theorem loop_coh {R : Result → Shared → Prop} (hh : A.handled = none) {S I : Addr} (hne : S ≠ I) (res : Value) (t₀ n : Nat) (hn : n ≤ 1000) :
    ∀ (k i : Nat) (s : Shared) (c : Nat), n - i = k → i ≤ n → s.toks = t₀ + i → s.heap.get? I = some (rngO (i : Int) (n : Int)) → s.heap.get? S = some (lstO (cohA t₀ i) c) →
    (∀ h' c', (∀ b o, b ≠ S → b ≠ I → s.heap.get? b = some o → h'.get? b = some o) → h'.get? S = some (lstO (cohA t₀ n) c') → R (.ok (.ret res)) { s with heap := h', toks := t₀ + n }) →
    codeAny (model prog w) A (.builtin "list.extend.loop" ⟨[.ref S, .ref I, res], []⟩) R s := by
  intro k
  induction k with
  | zero =>
    intro i s c hk hi ht hI hS hR
    have hin : i = n := by lia
    subst hin
    refine codeAny_builtin F.entry_extend_loop ?_
    rw [Around.under_plainId F.plain_extend_loop _]
    show wpAny _ A.in1 (pyNext (.ref I) >>= _) _ _ s
    refine wpAny_bind (wpAny_pyNext_range_end (x := (i : Int)) (left := (i : Int) - (i : Int)) (step := 1) hh hI (by lia) fun h' hs => ?_)
    have := hR h' c (fun b o _ hb q => hs b o hb q) (hs _ _ hne hS)
    rw [← ht] at this
    exact wpAny_pure this
  | succ k ih =>
    intro i s c hk hi ht hI hS hR
    refine codeAny_builtin F.entry_extend_loop ?_
    rw [Around.under_plainId F.plain_extend_loop _]
    show wpAny _ A.in1 (pyNext (.ref I) >>= _) _ _ s
    refine wpAny_bind (wpAny_pyNext_range_item (x := (i : Int)) (left := (n : Int) - (i : Int)) (step := 1) hI (by lia) fun h' hi' hs => ?_)
    have hS' : h'.get? S = some (lstO (cohA t₀ i) c) := hs.extBut _ _ hne hS
    show wpAny _ A.in1 (updateSeq S (·.push (.int (i : Int) s.toks)) >>= _) _ _ _
    have hl : (cohA t₀ i).toArray.size = i := by simp [cohA]
    obtain ⟨c3, g3⟩ : ∃ c3, (h'.update S (Obj.mapSeq (·.push (.int (i : Int) s.toks)))).get? S = some (lstO (cohA t₀ (i + 1)) c3) := by
      have h3 := get?_update_seq (c := "list") hS' (fun x : Array Value => x.push (.int (i : Int) s.toks))
      rw [List.push_toArray, ht, ← cohA_succ] at h3
      rw [ht]
      exact ⟨_, h3⟩
    have oth : ∀ b o, b ≠ S → h'.get? b = some o → (h'.update S (Obj.mapSeq (·.push (.int (i : Int) s.toks)))).get? b = some o := fun b o hb q => (Heap.get?_update_other _ _ (Ne.symm hb)).trans q
    refine wpAny_bind ?_
    refine wpAny_updateSeq hS' rfl (wpAny_pure ⟨plainId_quiet F.plain_extend_loop _, ih (i + 1) _ c3 (by lia) (by lia) (by show s.toks + 1 = _; lia) ?_ g3 fun h2 c2 k2 g2 => ?_⟩) (by rw [hl, sizeLine_eq]; lia) (by show ((cohA t₀ i).toArray.push _).size ≤ sizeLine + 1; rw [Array.size_push, hl, sizeLine_eq]; lia)
    · refine oth _ _ (Ne.symm hne) ?_
      have e1 : ((i + 1 : Nat) : Int) = (i : Int) + 1 := by push_cast; rfl
      unfold rngO
      rw [e1, show (n : Int) - ((i : Int) + 1) = (n : Int) - (i : Int) - 1 by lia]
      exact hi'
    · exact hR h2 c2 (fun b o b1 b2 q => k2 b o b1 b2 (oth b o b1 (hs.extBut b o b2 q))) g2
theorem extend_coh {R : Result → Shared → Prop} {s : Shared} {r : Addr} {t u v : Tok} {n : Nat} (hh : A.handled = none) (hr : IsRange s.heap r 0 (n : Int) 1 t u v) (hlen : n ≤ 1000) (S : Addr) (res : Value) (c₀ : Nat) (hS : s.heap.get? S = some (lstO [] c₀))
    (hR : ∀ h' c', (∀ b o, b ≠ S → s.heap.get? b = some o → h'.get? b = some o) → h'.get? S = some (lstO (cohA (s.toks + 2) n) c') → R (.ok (.ret res)) { s with heap := h', toks := s.toks + 2 + n }) :
    wpAny (model prog w) A.in1 (Builtin.List.listExtendWith (.ref S) (.ref r) res)
      (fun fin s' => match fin with | .done f => R (.ok f) s' | .again c' => c'.quiet = true ∧ codeAny (model prog w) A c' R s') (fun e s' => R (.error e) s') s := by
  have hSr : S ≠ r := fun e => by rw [e, hr] at hS; simp at hS
  have hSlt : S < s.heap.objs.size := Heap.lt_size hS
  have hSI : S ≠ s.heap.objs.size := Nat.ne_of_lt hSlt
  have hsm : Builtin.Range.small 0 (n : Int) 1 = true := small_of (by lia) (by lia)
  have hn : Builtin.Range.rangeSize 0 (n : Int) 1 = (n : Int) := size_of (by lia)
  have key : ∀ (h : Heap) (c₁ : Nat), h.get? s.heap.objs.size = some (rngO (0 : Nat) (n : Int)) → (∀ b o, b ≠ S → s.heap.get? b = some o → h.get? b = some o) → h.get? S = some (lstO [] c₁) →
      codeAny (model prog w) A (.builtin "list.extend.loop" ⟨[.ref S, .ref s.heap.objs.size, res], []⟩) R { s with heap := h, toks := s.toks + 1 + 1 } := fun h c₁ hit hk hS₁ => by
    refine loop_coh hh hSI res (s.toks + 2) n hlen n 0 _ c₁ (by lia) (Nat.zero_le _) (by show s.toks + 1 + 1 = _; lia) hit hS₁ fun h' c' k2 g2 => ?_
    exact hR h' c' (fun b o hb q => k2 b o hb (fun z => by rw [z] at q; exact absurd (Heap.lt_size q) (Nat.lt_irrefl _)) (hk b o hb q)) g2
  unfold Builtin.List.listExtendWith
  refine wpAny_bind (wpAny_typeOf (T := "range") ⟨_, hr, rfl⟩ ?_)
  have h1 : Builtin.List.listSameRef (.ref S) (.ref r) = false := by simp [Builtin.List.listSameRef, hSr]
  have h2 : (Value.type "range" == Value.type "list") = false := by decide
  have h3 : (Value.type "range" == Value.type "tuple") = false := by decide
  simp only [h1, h2, h3, Bool.or_false, Bool.false_eq_true, if_false]
  refine wpAny_bind (wpAny_pyIter_range hr hsm ?_)
  rw [hn]
  refine wpAny_bind (wpAny_holding (wpAny_hint_range (n := n) (Heap.get?_push_of_some _ hr) hn (by lia) ?_))
  have eO : rngO ((0 : Nat) : Int) (n : Int) = { cls := .type "range_iterator", data := .fields #[rawInt 0, rawInt (n : Int), rawInt 1] } := by unfold rngO; simp
  have hit₁ : (s.heap.push { cls := .type "range_iterator", data := .fields #[rawInt 0, rawInt (n : Int), rawInt 1] }).get? s.heap.objs.size = some (rngO ((0 : Nat) : Int) (n : Int)) := by rw [eO]; exact Heap.get?_push_size _ rfl
  have hS₁ := Heap.get?_push_of_some { cls := .type "range_iterator", data := .fields #[rawInt 0, rawInt (n : Int), rawInt 1] } hS
  refine wpAny_ite_split (fun _ => ?_) (fun _ => wpAny_pure ⟨plainId_quiet F.plain_extend_loop _, key _ c₀ hit₁ (fun b o _ e => Heap.get?_push_of_some _ e) hS₁⟩)
  refine wpAny_bind (wpAny_rule ?_)
  refine wpAny_bind ?_
  show wpAny _ _ (updateSeq S (·.push .none) >>= fun _ => updateSeq S (·.pop)) _ _ _
  refine wpAny_bind (wpAny_updateSeq hS₁ rfl ?_)
  have hS₂ := Heap.get?_update_self (Obj.mapSeq (·.push Value.none)) hS₁ rfl
  refine wpAny_updateSeq (hz := by seq_fits) hS₂ rfl ?_
  have hS₃ := Heap.get?_update_self (Obj.mapSeq (·.pop)) hS₂ rfl
  refine wpAny_pure ⟨plainId_quiet F.plain_extend_loop _, key _ _ ?_ (fun b o hb e => ?_) hS₃⟩
  · exact (Heap.get?_update_other _ _ hSI).trans ((Heap.get?_update_other _ _ hSI).trans hit₁)
  · exact (Heap.get?_update_other _ _ (Ne.symm hb)).trans ((Heap.get?_update_other _ _ (Ne.symm hb)).trans (Heap.get?_push_of_some _ e))
theorem list_coh {Q : Value → Shared → Prop} {E : Value → Shared → Prop} {s : Shared} {r : Addr} {t u v : Tok} {n : Nat} (hh : A.handled = none) (hr : IsRange s.heap r 0 (n : Int) 1 t u v) (hlen : n ≤ 1000)
    (hQ : ∀ h' c', (∀ b o, s.heap.get? b = some o → h'.get? b = some o) → h'.get? s.heap.objs.size = some (lstO (cohA (s.toks + 2) n) c') → Q (.ref s.heap.objs.size) { s with heap := h', toks := s.toks + 2 + n }) :
    wpAny (model prog w) A (call (.type "list") [.ref r]) Q E s := by
  refine callType_codes (Q₁ := fun obj s₁ => obj = .ref s.heap.objs.size ∧ s₁ = { s with heap := s.heap.push { cls := .type "list", data := .seq #[] } }) F.called_list (F.typeCall_list_1 _) F.entry_list_init
    (code_list_new _ ⟨rfl, rfl⟩) fun obj s₁ h₁ => ?_
  (refine e02 h₁ fun q58_ q59_ => ?_; try clear h₁; subst q58_; subst q59_)
  have hS : (s.heap.push { cls := .type "list", data := .seq #[] }).get? s.heap.objs.size = some (lstO [] 0) := Heap.get?_push_size _ rfl
  refine ⟨⟨_, hS, rfl⟩, F.args_list_init_2 _ _, ?_⟩
  generalize hH : s.heap.push { cls := .type "list", data := .seq #[] } = h1 at hS ⊢
  have hr1 : IsRange h1 r 0 (n : Int) 1 t u v := by rw [← hH]; exact Heap.get?_push_of_some _ hr
  have hk1 : ∀ b o, s.heap.get? b = some o → h1.get? b = some o := fun b o q => by rw [← hH]; exact Heap.get?_push_of_some _ q
  generalize hS' : s.heap.objs.size = S at hS hQ ⊢
  have hSr : S ≠ r := fun e => by rw [e, hr1] at hS; simp at hS
  show wpAny _ _ (do let old ← Builtin.List.listItems (.ref S); Builtin.List.listUpdate (.ref S) (fun _ => #[]); letGo old.toList.reverse; Builtin.List.listExtendWith (.ref S) (.ref r) .none) _ _ { s with heap := h1 }
  refine wpAny_bind ?_
  unfold Builtin.List.listItems
  refine wpAny_bind (wpAny_seqItems hS rfl (wpAny_pure ?_))
  show wpAny _ _ (updateSeq S (fun _ => #[]) >>= fun _ => letGo (#[] : Array Value).toList.reverse >>= fun _ => Builtin.List.listExtendWith (.ref S) (.ref r) .none) _ _ _
  refine wpAny_bind (wpAny_updateSeq hS rfl ?_)
  have hS₂ := Heap.get?_update_self (Obj.mapSeq (fun _ => (#[] : Array Value))) hS rfl
  have oth : ∀ b o, b ≠ S → h1.get? b = some o → (h1.update S (Obj.mapSeq (fun _ => (#[] : Array Value)))).get? b = some o :=
    fun b o hb e => (Heap.get?_update_other _ _ (Ne.symm hb)).trans e
  refine wpAny_bind (wpAny_letGo ?_)
  refine extend_coh (A := A.in1) (s := { s with heap := h1.update S (Obj.mapSeq (fun _ => (#[] : Array Value))) }) hh (oth r _ (Ne.symm hSr) hr1) hlen S .none _ hS₂ fun h' c' hk g2 => ?_
  exact ⟨rfl, hQ h' c' (fun b o e => hk b o (by rw [← hS']; exact Nat.ne_of_lt (Heap.lt_size e)) (oth b o (by rw [← hS']; exact Nat.ne_of_lt (Heap.lt_size e)) (hk1 b o e))) g2⟩
end
theorem cohA_vals (t₀ n : Nat) : cohA t₀ n = ((List.range n).map fun (j : Nat) => (j : Int)).map fun v => Value.int v (t₀ + v.toNat) := by
  unfold cohA; rw [List.map_map]; rfl
theorem TE_listrange {x y : Str} {np np2 pos pos2 : Pos} {a0 : Expr} {n : Nat} {m : Int} {r : Tok → Prop} (hf : TE c e vars H (eval (.Name x np) e.env) (.con (.type "list")) H) (hg : TE c e vars H (eval (.Name y np2) e.env) (.con (.type "range")) H) (ha : TE c e vars H (eval a0 e.env) (.intP m r) H1) (hm : m = (n : Int)) (hn : n ≤ 1000)
    (he : starEach [.Call (.Name y np2) [a0] [] pos2] e.env = [(false, eval (.Call (.Name y np2) [a0] [] pos2) e.env)]) (he2 : starEach [a0] e.env = [(false, eval a0 e.env)]) :
    TE c e vars H (eval (.Call (.Name x np) [.Call (.Name y np2) [a0] [] pos2] [] pos) e.env) (.lstC ((List.range n).map fun (j : Nat) => (j : Int))) H1 := fun s fz ys ρ g Q E R k => by
  subst hm
  refine wpAny_Call_Name_kw (hf _ _ _ _ _ _ _ R fun v hh1 tk1 g1 fz1 ρ1 T1 X1 v1 R1 => ?_)
  cases v1
  show wpAny _ _ (callWith pos (.type "list") [] (backTo pos (starEach [.Call (.Name y np2) [a0] [] pos2] e.env)) []) _ _ _
  rw [he]
  refine callWith_of (P := fun h => (top0.heap_1 c.w.params).In h) rfl Kept.type ?_
  refine evalArgs_plain (spliced_cons (wpAny_Call_Name_kw (hg _ _ _ _ _ _ _ R1 fun v hh2 tk2 g2 fz2 ρ2 T2 X2 v2 R2 => ?_)))
  cases v2
  show wpAny _ _ (callWith pos2 (.type "range") [] (backTo pos2 (starEach [a0] e.env)) []) _ _ _
  rw [he2]
  refine callWith_of (P := fun h => (top0.heap_1 c.w.params).In h) rfl Kept.type ?_
  refine evalArgs_plain (spliced_cons (ha _ _ _ _ _ _ _ R2 fun b hh3 tk3 g3 fz3 ρ3 T3 X3 v3 R3 => spliced_nil ⟨R3.In, ?_⟩))
  induction v3 using VR.intE with
  | k t _ =>
    refine call_range_1 ?_
    dsimp only
    have R4 := (R3.push { cls := .type "range", data := .fields #[.int 0 tk3, .int (n : Int) t, .int 1 (tk3 + 1)] }).up (Nat.le_add_right tk3 2)
    have hrg := IsRange.new hh3 0 (n : Int) 1 tk3 t (tk3 + 1)
    refine spliced_nil ⟨R4.In, ?_⟩
    refine list_coh rfl hrg hn fun h' c' hk g2' => ?_
    have R5 := R4.allocF (lstO (cohA (tk3 + 2 + 2) n) c')
    refine k _ h' _ g3 _ ρ3 ((T1.trans T2).trans T3) (((X1.trans X2).trans X3).trans Ext.cons) (.lstC (t₀ := tk3 + 2 + 2) (n := c') ?_ (by lia)) ((R5.garbage fun b o q => ?_).up ?_)
    · rw [← cohA_vals]; exact .head _
    · (refine Or.elim (Nat.lt_or_ge b (hh3.push { cls := .type "range", data := .fields #[.int 0 tk3, .int (n : Int) t, .int 1 (tk3 + 1)] }).objs.size) (fun z => ?_) (fun z => ?_))
      · rw [Heap.get?_push_ne _ _ _ (Nat.ne_of_lt z)] at q; exact hk b o q
      · have hb := Heap.lt_size q
        rw [Heap.size_push] at hb
        have : b = (hh3.push { cls := .type "range", data := .fields #[.int 0 tk3, .int (n : Int) t, .int 1 (tk3 + 1)] }).objs.size := Nat.le_antisymm (Nat.le_of_lt_succ hb) z
        subst this
        rw [Heap.get?_push_size _ rfl] at q
        (replace q := Option.some.inj q; subst q); exact g2'
    · exact Nat.le_trans (Nat.le_add_right _ 2) (Nat.le_add_right _ n)
end Mine
end

section
open PySem PySem.W PyProof.Rows PySem.Calls PyProof.Rows.LCg
set_option Elab.async false
set_option linter.all false
set_option maxRecDepth 100000
set_option maxHeartbeats 1000000
namespace Mine
variable {c : Amb} {e : Sc} {vars vars' vars'' : Vars} {H H1 H2 H3 : List MO}
theorem PO_inL {k : Int} {r : Tok → Prop} {xs : List V} {ns : List Int} (hx : ∀ {fz : Lg} {ρ : List Addr} {vs : List Value}, VRs fz ρ vs xs → IntsAre vs ns) : PO c e vars H (compareOp .In) (.intP k r) (.lst xs) (.bool (ns.any (· == k))) H := fun a b s fz ys ρ g Q E R ha hb kk => by
  induction ha using VR.intE with
  | k t _ =>
    induction hb using VR.lstE with
    | k hm hr => exact in_list_ints ⟨_, R.getF hm, rfl, _, rfl⟩ (hx hr) (kk _ s.heap s.toks g fz ρ KtsTurn.refl Ext.refl (.bool _) R)
theorem PO_ninL {k : Int} {r : Tok → Prop} {xs : List V} {ns : List Int} (hx : ∀ {fz : Lg} {ρ : List Addr} {vs : List Value}, VRs fz ρ vs xs → IntsAre vs ns) : PO c e vars H (compareOp .NotIn) (.intP k r) (.lst xs) (.bool (!(ns.any (· == k)))) H := fun a b s fz ys ρ g Q E R ha hb kk => by
  induction ha using VR.intE with
  | k t _ =>
    induction hb using VR.lstE with
    | k hm hr => exact notin_list_ints ⟨_, R.getF hm, rfl, _, rfl⟩ (hx hr) (kk _ s.heap s.toks g fz ρ KtsTurn.refl Ext.refl (.bool _) R)
theorem PO_inT {k : Int} {r : Tok → Prop} {xs : List V} {ns : List Int} (hx : ∀ {fz : Lg} {ρ : List Addr} {vs : List Value}, VRs fz ρ vs xs → IntsAre vs ns) : PO c e vars H (compareOp .In) (.intP k r) (.tup xs) (.bool (ns.any (· == k))) H := fun a b s fz ys ρ g Q E R ha hb kk => by
  induction ha using VR.intE with
  | k t _ =>
    induction hb using VR.tupE with
    | k hm hr => exact in_tuple_ints ⟨_, R.getF hm, rfl, _, rfl⟩ (hx hr) (kk _ s.heap s.toks g fz ρ KtsTurn.refl Ext.refl (.bool _) R)
end Mine
end

section
open PySem PySem.W PyProof.Rows PySem.Calls PyProof.Rows.LCg
set_option Elab.async false
set_option linter.all false
set_option maxRecDepth 100000
set_option maxHeartbeats 1000000
namespace Mine
variable {c : Amb} {e : Sc} {vars vars' vars'' : Vars} {H H1 H2 H3 : List MO}
theorem PSl_lst1' {value lower upper} {p : Pos} {xs : List V} (hsz : xs.length ≤ sizeLine) (ht : ∀ a r, letTemporaryGo value (.ref a) r = pure ()) : PSl c e vars H value (.Slice lower upper none p) (.lst xs) (some 1) none (.lst (xs.drop 1)) := fun a vl vu t u s fz ys ρ g Q E R ha e1 e2 k => by
  induction ha using VR.lstE with
  | k hm hr =>
    rename_i a vs n
    (refine e25 (R.openN) fun m news F' N' _ _ ad => ?_)
    subst e1 e2
    refine slice_list (lo := some 1) (hi := none) F' N' ⟨_, R.getF hm, rfl, n, rfl⟩ IsPart_of IsPart_of (fun h' F2 N2 => ?_) (by rfl) (ht _) (by rw [List.size_toArray, hr.length]; exact hsz)
    have e3 : slicePick vs.toArray (some 1) none none = (vs.drop 1).toArray := by
      cases vs with
      | nil => rfl
      | cons v vs =>
        have := slicePick_from (v :: vs).toArray 1 (by simp)
        simpa using this
    rw [e3] at N2
    have R2 := (ad h' (s.heap.objs.size + 1) (lstO (vs.drop 1) 0) F2 N2 fun p hp => Nat.lt_succ_of_lt (Heap.lt_size (N' p hp).1))
    exact k _ h' s.toks g _ ρ KtsTurn.refl Ext.cons (.lst (.head _) ((hr.drop 1).ext Ext.cons)) R2
end Mine
end

section
open PySem PySem.W PyProof.Rows PySem.Calls PyProof.Rows.LCg
set_option Elab.async false
set_option linter.all false
set_option maxRecDepth 100000
set_option maxHeartbeats 1000000
namespace Mine
variable {c : Amb} {e : Sc} {vars vars' vars'' : Vars} {H H1 H2 H3 : List MO}
noncomputable abbrev topFd (name : Str) (params : Arguments) (body : List Stmt) (scope : Scope) (pm cd doc dV kV : Value) : FuncData := { docDef name params body scope pm cd doc with defaults := dV, kwdefaults := kV }
theorem top_enter {w : World} {s : Shared} {mean : ExcName → Option Value} {mg mb : Str → Option Value} {f : Addr} {o : Obj} {name : Str} {params : Arguments} {body : List Stmt} {scope : Scope} {doc pm cd dV kV : Value} {x : Str} {v : Value} {R : Result → Shared → Prop} {lv : Nat} {r : V} {H' : List MO}
    (X : (top0.heap_1 w.params).In s.heap) (T : Top PP LL mean mg mb s.heap) (ho : s.heap.get? f = some o) (hdd : o.data = .func (topFd name params body scope pm cd doc dV kV)) (hcd : s.heap.CodeRec cd name)
    (hb : BindsTo s (topFd name params body scope pm cd doc dV kV) ⟨[v], []⟩ [(x, v)]) (hx : scope.names.lookup x = some .local)
    (hcn : ((cellNames scope.names).all fun x => decide (scope.names.lookup x = some NameKind.cell)) = true)
    (hlv : callerA.depth + 1 + lv < recursionLimit ∧ callerA.units + 3 + 8 * lv + 64 < cLine)
    (hbody : ∀ (c : Amb), c.w = w → c.n = 1 → c.base = s.heap → Room (c.atC name scope) lv → TS (c.atC name scope) ⟨(c.atC name scope).env, cellNames scope.names⟩ [(x, .con v)] [] body (.ret r) [] H')
    (hR : ∀ (rv : Value) (h' : Heap) (tk' : Nat) (fz : Lg) (ρ : List Addr), VR fz ρ rv r → (∀ b o, s.heap.get? b = some o → h'.get? b = some o) → R (.ok (.ret rv)) { s with heap := h', toks := tk' })
    (hco : scope.isCoroutine = false := by rfl) (hgen : scope.isGenerator = false := by rfl) (hk : scope.kind = .function := by rfl) : codeAny (model PySem.Challenge.rw_kl0209_01.row.prog w) callerA (.call (.ref f) ⟨[v], []⟩) R s := by
  refine codeAny_call_function (fd := topFd name params body scope pm cd doc dV kV) (body := body) (by decide) ho hdd hco hgen rfl hcd (hb _ _ _ _ ?_)
  simp only [newFunctionEnv, Option.isSome_none, Bool.false_eq_true, if_false]
  refine wpAny_bind (wpAny_alloc ?_)
  refine wpAny_bind (wpAny_layCells _ (fun name kind cells => by cases hkc : kind == NameKind.cell <;> simp [hkc]) _ _ _ _ ?_)
  rw [show ({ s with heap := s.heap.push { cls := .type "frame", data := .dict #[] } } : Shared).heap.objs.size = s.heap.objs.size + 1 from Heap.size_push ..]
  generalize hF : s.heap.push { cls := .type "frame", data := .dict #[] } = HF
  have hFs : HF.objs.size = s.heap.objs.size + 1 := by rw [← hF, Heap.size_push]
  have keepF : ∀ b ob, s.heap.get? b = some ob → HF.get? b = some ob := fun b ob q => hF ▸ Heap.get?_push_of_some _ q
  let c' : Amb := { w := w, n := 1, mean := mean, mg := mg, mb := mb, A₀ := callerA, base := s.heap, outer := [], dp := callerA.depth + 1, un := callerA.units + 3, gd := callerA.guards, cn := name, cs := scope, L := s.heap.objs.size, a := f, ccd := cd, cl := cellsFrom (s.heap.objs.size + 1) scope.names [], fm := none }
  have l0 : Led s.heap.objs.size s.heap HF (fun _ => none) [] [] :=
    ⟨⟨hF ▸ Heap.Ns.new s.heap (.type "frame"), fun b o e => keepF b o e, Nat.le_refl _⟩, fun p hp => by simp at hp, List.nodup_nil, fun p hp => by simp at hp⟩
  have l1 := Led.pushCells scope.names l0
  rw [hFs, List.append_nil] at l1
  have G1 : Gr c' s.heap := ⟨⟨X, T, hk, Nat.le_refl _, Nat.le_add_left 1 _, Nat.le_add_left 3 _⟩, below_caller _, fun b hb => by (refine e12 (List.mem_filterMap.mp hb) fun a ha _ => ?_); exact absurd ha List.not_mem_nil⟩
  have hown : OwnOk c'.env (cellObjs (s.heap.objs.size + 1) scope.names) (cellNames scope.names) := own_ok (acc := []) rfl (fun x hx => of_decide_eq_true (List.all_eq_true.mp hcn x hx)) fun y a q => by simp at q
  rw [List.forIn_cons]
  refine wpAny_bind (wpAny_bind (wpAny_bind (wpAny_storeName_local (env := c'.env) hx l1.F.ns (fun hB hn hs => wpAny_pure ?_) ?_)))
  · refine wpAny_pure (wpAny_pure ?_)
    have l2 := l1.loc hn hs
    have R0 : Rep c' ⟨c'.env, cellNames scope.names⟩ [(x, .con v)] [] [] [] [] s.heap hB (s.toks + 1) :=
      ⟨G1, Nat.le_add_left 1 _, ⟨hk, rfl, rfl⟩, _, [], cellObjs (s.heap.objs.size + 1) scope.names, by simpa using l2, ⟨rfl, rfl, fun i o mo h => by simp at h, fun i es b h => by simp at h⟩, ⟨fun y u q => by
        rw [List.lookup_cons] at q
        by_cases hy : y = x
        · subst hy
          simp at q; subst q
          exact ⟨v, .inl ⟨hx, rfl, by simp⟩, .con v⟩
        · have : (y == x) = false := by simpa using hy
          rw [this] at q; simp at q, fun x hx => by
        (refine e02 (hown.1 x hx) fun b1 q34_ => ?_; obtain ⟨ca, b2, b3⟩ := q34_)
        exact ⟨b1, ca, cellO, none, b2, b3, rfl⟩, hown.2, .inl rfl, fun m₀ q => nomatch q⟩⟩
    have hlimB : hB.NoLimit := T.nolimit.keeps l2.F.keep
    refine ⟨hlimB, codeAny_func ?_⟩
    have hb := hbody c' rfl rfl rfl ⟨hlv.1, hlv.2⟩
    refine hb _ _ _ _ _ _ _ R0 fun fv h' tk' g1' fz' ρ' T' X' hfv R2 => ?_
    cases hfv with
    | ret h =>
      refine hR _ _ _ _ _ h fun b o q => ?_
      obtain ⟨_, _, _, l3, _, _⟩ := R2.ex
      exact l3.F.keep b o (R2.gr.B.stays b o q)
  · show (scope.kind == .class || (scope.kind == .module && _)) = false
    rw [hk]; rfl
theorem baseList {fz ys : Lg} {ρ : List Addr} {g h : Heap} {tk : Nat} (R : Rep c e vars H fz ρ ys g h tk) {a : Addr} {vs : Array Value} (hb : c.base.IsList a vs) : h.IsList a vs := by
  (refine e12 hb fun o h1 h2 => ?_; try clear hb)
  obtain ⟨_, _, _, l, _, _⟩ := R.ex
  exact ⟨o, l.F.keep a o (R.gr.B.stays a o h1), h2⟩
theorem PC_lenB {a : Addr} {vs : List Value} (hb : c.base.IsList a vs.toArray) (hl : vs.length ≤ 1000) : PC c e vars H (.builtin "len") [.con (.ref a)] (.int vs.length) H := fun us s fz ys ρ g Q E R hv k => by
  induction hv using VRs.consE with
  | k x y =>
    induction y using VRs.nilE
    cases x
    refine fin_flat (fun Q E k => ?_) R k
    refine call_len_list (baseList R hb) (by rw [List.size_toArray]; lia) ?_
    rw [List.size_toArray]
    exact k _ _ (.int _ _ trivial)
theorem PO_itemB {value slice : Expr} {q : Tok → Prop} {a : Addr} {vs : List Value} {ns : List Int} {j : Nat} {i n : Int} (hb : c.base.IsList a vs.toArray) (hI : IntsAre vs ns) (hi : i = (j : Int)) (hx : ns[j]? = some n) (hj : j < 1000000)
    (hs : ∀ a t, subscripted slice false (.ref a) (.int i t) = operate [.ref a, .int i t] (getItem (.ref a) (.int i t))) : PO c e vars H (subscriptTail value slice) (.con (.ref a)) (.intP i q) (.int n) H := fun x y s fz ys ρ g Q E R ha hb2 k => by
  subst hi
  cases ha
  induction hb2 using VR.intE
  have hl := baseList R hb
  have hv : VRs fz ρ vs (ns.map V.int) := ints_vr hI
  (refine e13 (hv.get2 (j := j) (x := .int n) (by rw [List.getElem?_map, hx]; rfl)) fun v e1 hv hlt => ?_)
  refine tail_any hl.typeIs slot_list_getitem.lookup (wpAny_getItem_list hl (by lia) (by lia) (by simpa using e1) ?_) (hs _ _)
  exact k v s.heap s.toks g fz ρ KtsTurn.refl Ext.refl hv R
end Mine
end

section
open PySem PySem.W PyProof.Rows PySem.Calls PyProof.Rows.LCg
set_option Elab.async false
set_option linter.all false
set_option maxRecDepth 100000
set_option maxHeartbeats 1000000
namespace Mine
variable {c : Amb} {e : Sc} {vars vars' vars'' : Vars} {H H1 H2 H3 : List MO}
section
variable {prog : Program} {w : World} {A : Around} {E : Value → Shared → Prop} {s : Shared}
theorem setItem_up {l : Addr} {vs : List Value} {n : Nat} {k : Int} {t : Tok} {v : Value} {Q : Unit → Shared → Prop} (ho : s.heap.get? l = some (lstO vs n)) (h0 : 0 ≤ k) (hj : k < vs.length) (hl : vs.length ≤ 1000)
    (hQ : ∀ j : Nat, k = (j : Int) → Q () { s with heap := s.heap.update l (Obj.mapSeq (·.setIfInBounds j v)) }) : wpAny (model prog w) A (setItem (.ref l) (.int k t) v) Q E s := by
  have hL : s.heap.IsList l vs.toArray := ⟨_, ho, rfl, n, rfl⟩
  have hf : k < 2 ^ 63 := by lia
  unfold setItem
  try with_reducible refine wpAny_holding ?_
  refine wpAny_bind (wpAny_sequenceKey hL.typeIs (by decide) ?_)
  refine wpAny_bind (wpAny_callSpecial?_slot (name := Str.ofString "__setitem__") hL.typeIs slot_list_setitem (wpAny_call_entry slot_list_setitem hL.typeIs entry_list_setitem ?_ (args_list_setitem _ _ _)))
  show wpAny _ _ (Builtin.List.listSubscript? (.int k t) >>= _) _ _ s
  refine wpAny_bind (wpAny_listSubscript_int (fitsIndex_of h0 hf) ?_)
  clear hf
  (refine Exists.elim (Int.eq_ofNat_of_zero_le h0) fun j q60_ => ?_; subst q60_)
  show wpAny _ _ ((seqItemAt l j >>= fun r => pure (r.map (j, ·))) >>= _) _ _ s
  refine wpAny_bind (wpAny_bind (wpAny_seqItemAt ho rfl (wpAny_pure ?_)))
  have e : vs.toArray[j]? = some (vs[j]'(by lia)) := by rw [List.getElem?_toArray, List.getElem?_eq_getElem]
  rw [e]
  show wpAny _ _ (setSeqItemAt l j v >>= _) _ _ s
  exact wpAny_bind (wpAny_setSeqItemAt ho rfl (wpAny_pure ⟨.none, rfl, wpAny_pure (hQ j rfl)⟩))
end
theorem VRs.set {fz : Lg} {ρ : List Addr} {v : Value} {x : V} (hx : VR fz ρ v x) : ∀ {vs : List Value} {xs : List V} (j : Nat), VRs fz ρ vs xs → VRs fz ρ (vs.set j v) (xs.set j x)
  | _, _, _, .nil => .nil
  | _, _, 0, .cons h r => .cons hx r
  | _, _, j + 1, .cons h r => .cons h (VRs.set hx j r)
theorem TS1_augL {o ix value : Expr} {spos pos : Pos} {op : Operator} {i j : Nat} {k : Int} {r : Tok → Prop} {xs : List V} {x0 y z : V} (h1 : TE c e vars H (eval o e.env) (.obj i) H) (h2 : TE c e vars H (eval ix e.env) (.intP k r) H) (hi : H[i]? = some (.list xs)) (hk : k = (j : Int)) (hx : xs[j]? = some x0) (hl : xs.length ≤ 1000)
    (h3 : TE c e vars H (eval value e.env) y H) (h4 : PO c e vars H (inplaceOp op) x0 y z H)
    (ha : ∀ ov iv new, augStore ix ov iv new = (do holding [new, ov, iv] (setItem ov iv new); release [new, ov, iv] []; pure .next)) : TS1 c e vars H (.AugAssign (.Subscript o ix spos) op value pos) .next vars (H.set i (.list (xs.set j z))) := fun s fz ys ρ g Q E R kk => by
  subst hk
  refine wpAny_AugAssign_SubscriptAny (h1 _ _ _ _ _ _ _ R fun ov hh1 tk1 g1 fz1 ρ1 T1 X1 v1 R1 => ?_) ha
  refine h2 _ _ _ _ _ _ _ R1 fun iv hh2 tk2 g2 fz2 ρ2 T2 X2 v2 R2 => ?_
  (refine e35 (R2.updL hi (v1.ext X2)) fun a vs n q61_ hρ hg hr _ => ?_; subst q61_)
  induction v2 using VR.intE with
  | k t ht =>
    (refine e13 (hr.get2 hx) fun v0 e0 hv0 hlt => ?_)
    have hL : hh2.IsList a vs.toArray := ⟨_, hg, rfl, n, rfl⟩
    have hvl : vs.length = xs.length := hr.length
    have hjl : j < vs.length := by
      (refine Or.elim (Nat.lt_or_ge j vs.length) (fun q => ?_) (fun q => ?_))
      · exact q
      · rw [List.getElem?_eq_none q] at e0; exact ns e0
    refine wpAny_getItem_list (s := { s with heap := hh2, toks := tk2 }) hL (by lia) (by lia) (by simpa using e0) ?_
    refine h3 _ _ _ _ _ _ _ R2 fun b hh3 tk3 g3 fz3 ρ3 T3 X3 v3 R3 => ?_
    refine h4 _ _ _ _ _ _ _ _ _ R3 (hv0.ext X3) v3 fun d hh4 tk4 g4 fz4 ρ4 T4 X4 v4 R4 => ?_
    (refine e35 (R4.updL hi (((v1.ext X2).ext X3).ext X4)) fun a' vs' n' ea hρ' hg' hr' up => ?_)
    cases ea
    have hvl' : vs'.length = xs.length := hr'.length
    refine setItem_up hg' (by lia) (by lia) (by lia) fun j' ej => ?_
    have : j = j' := by lia
    subst this
    refine kk .next _ tk4 g4 fz4 ρ4 (((T1.trans T2).trans T3).trans T4) (((X1.trans X2).trans X3).trans X4) .next (up _ (vs'.set j d) (xs.set j z) (by simp) ?_)
    exact VRs.set v4 j hr'
theorem PO_inOS {i : Nat} {k : Str} {r : Tok → Prop} {ks : List Str} (hi : H[i]? = some (.list (ks.map V.str))) : PO c e vars H (compareOp .In) (.strP k r) (.obj i) (.bool (ks.any (· == k))) H := fun a b s fz ys ρ g Q E R ha hb kk => by
  (refine e35 (R.updL hi hb) fun ad vs n q62_ hρ hg hr _ => ?_; subst q62_)
  induction ha using VR.strE with
  | k t _ =>
    have hS : ∀ {vs : List Value} {ks : List Str}, VRs fz ρ vs (ks.map V.str) → StrsAre vs ks := by
      intro vs ks
      induction ks generalizing vs with
      | nil => intro h; induction h using VRs.nilE; exact .nil
      | cons y ks ih =>
        intro h
        induction h using VRs.consE with
        | k h1 h2 =>
          induction h1 using VR.strE with
          | k t _ => exact .cons y t (ih h2)
    exact in_list_strs ⟨_, hg, rfl, n, rfl⟩ (hS hr) (kk _ s.heap s.toks g fz ρ KtsTurn.refl Ext.refl (.bool _) R)
theorem rep_foldl (a : List Value) : ∀ (n : Nat) (acc : Array Value), List.foldl (fun x1 x2 => x1 ++ x2) acc (List.replicate n a.toArray) = acc ++ ((List.replicate n a).flatten).toArray
  | 0, acc => by simp
  | n + 1, acc => by
    rw [List.replicate_succ, List.foldl_cons, rep_foldl a n, List.replicate_succ, List.flatten_cons]
    simp
theorem VRs.rep {fz : Lg} {ρ : List Addr} {vs : List Value} {xs : List V} (h : VRs fz ρ vs xs) : ∀ n, VRs fz ρ (List.replicate n vs).flatten (List.replicate n xs).flatten
  | 0 => .nil
  | n + 1 => by
    rw [List.replicate_succ, List.flatten_cons, List.replicate_succ, List.flatten_cons]
    exact h.append (h.rep n)
theorem PO_mulL {xs : List V} {n : Nat} {k : Int} {r : Tok → Prop} (hk : k = (n : Int)) (hne : 0 < xs.length) (hl : xs.length * n ≤ 1000) (hn : n ≤ 1000) : PO c e vars H (binaryOp .Mult) (.lst xs) (.intP k r) (.lst (List.replicate n xs).flatten) H := fun a b s fz ys ρ g Q E R ha hb kk => by
  subst hk
  induction ha using VR.lstE with
  | k hm hr =>
    rename_i a vs m0
    induction hb using VR.intE with
    | k t _ =>
      (refine e25 (R.openN) fun m news F' N' _ _ ad => ?_)
      have hvl : vs.length = xs.length := hr.length
      have he : vs.toArray.isEmpty = false := by cases vs with | nil => simp at hvl; lia | cons => rfl
      refine mul_list F' N' (R.getF hm) (by lia) (by lia) (by rw [List.size_toArray, hvl, Int.toNat_natCast]; lia) fun h' F2 N2 => ?_
      rw [he] at N2
      simp only [Bool.false_eq_true, if_false, Int.toNat_natCast] at N2
      rw [rep_foldl] at N2
      have e2 : #[] ++ ((List.replicate n vs).flatten).toArray = ((List.replicate n vs).flatten).toArray := by simp
      rw [e2] at N2
      have R2 := ad h' s.heap.objs.size (lstO (List.replicate n vs).flatten 0) F2 N2 fun p hp => Heap.lt_size (N' p hp).1
      exact kk _ h' s.toks g _ ρ KtsTurn.refl Ext.cons (.lst (.head _) ((hr.rep n).ext Ext.cons)) R2
theorem PO_addLL {xs zs : List V} (hl : xs.length + zs.length ≤ 1000) : PO c e vars H (binaryOp .Add) (.lst xs) (.lst zs) (.lst (xs ++ zs)) H := fun a b s fz ys ρ g Q E R ha hb kk => by
  induction ha using VR.lstE with
  | k hm hr =>
    induction hb using VR.lstE with
    | k hm2 hr2 =>
      rename_i a vs m0 b ws m1
      (refine e25 (R.openN) fun m news F' N' _ _ ad => ?_)
      have h1 : vs.length = xs.length := hr.length
      have h2 : ws.length = zs.length := hr2.length
      refine add_lists F' N' ⟨_, R.getF hm, rfl, _, rfl⟩ ⟨_, R.getF hm2, rfl, _, rfl⟩ (fun h' F2 N2 => ?_) (by rw [sizeLine_eq]; lia)
      have R2 := ad h' s.heap.objs.size (lstO (vs ++ ws) 0) F2 N2 fun p hp => Heap.lt_size (N' p hp).1
      exact kk _ h' s.toks g _ ρ KtsTurn.refl Ext.cons (.lst (.head _) ((hr.append hr2).ext Ext.cons)) R2
end Mine
end

section
open PySem PySem.W PyProof.Rows PySem.Calls PyProof.Rows.LCg
set_option Elab.async false
set_option linter.all false
set_option maxRecDepth 100000
set_option maxHeartbeats 1000000
namespace Mine
variable {c : Amb} {e : Sc} {vars vars' vars'' : Vars} {H H1 H2 H3 : List MO}
inductive WStep {σ : Type} (c : Amb) (e : Sc) (test : Expr) (body : List Stmt) (VS : σ → Vars) (HS : σ → List MO) (I : Nat → σ → Prop) (Done : σ → Prop) (n : Nat) (x : σ) : Prop
  | stop : TB c e (VS x) (HS x) (isTrue test e.env (eval test e.env)) false (HS x) → Done x → WStep c e test body VS HS I Done n x
  | go (y : σ) (m : Nat) : m < n → I m y → TB c e (VS x) (HS x) (isTrue test e.env (eval test e.env)) true (HS x) → TS c e (VS x) (HS x) body .next (VS y) (HS y) → WStep c e test body VS HS I Done n x
theorem TS_whileS {σ : Type} {VS : σ → Vars} {HS : σ → List MO} {test : Expr} {body rest : List Stmt} {pos : Pos} {f : Fl} {H' : List MO} (I : Nat → σ → Prop) (Done : σ → Prop) (n : Nat) (x0 : σ) (hI : I n x0)
    (step : ∀ n x, I n x → WStep c e test body VS HS I Done n x) (hdone : ∀ x, Done x → TS c e (VS x) (HS x) rest f vars' H') : TS c e (VS x0) (HS x0) (.While test body [] pos :: rest) f vars' H' := by
  refine TS_while' (fun n vs H => ∃ x, I n x ∧ vs = VS x ∧ H = HS x) (fun vs H => ∃ x, Done x ∧ vs = VS x ∧ H = HS x) n ⟨x0, hI, rfl, rfl⟩ ?_ ?_
  · (intro n vs H q10_; (refine e13 q10_ fun x hx q63_ q64_ => ?_; try clear q10_; subst q63_; subst q64_))
    cases step n x hx with
    | stop a b => exact .inl ⟨_, a, x, b, rfl, rfl⟩
    | go y m h1 h2 h3 h4 => exact .inr ⟨_, .next, _, _, h3, h4, .inl ⟨rfl, m, h1, y, h2, rfl, rfl⟩⟩
  · (intro vs H q11_; (refine e13 q11_ fun x hx q65_ q66_ => ?_; try clear q11_; subst q65_; subst q66_))
    exact hdone x hx
inductive FStep {α σ : Type} (c : Amb) (e : Sc) (target : Expr) (body : List Stmt) (f : α → V) (VS : σ → Vars) (HS : σ → List MO) (I : List α → σ → Prop) (a : α) (l : List α) (x : σ) : Prop
  | go (y : σ) {vars1 vars2 : Vars} : I l y → TAs c e (HS x) target (f a) (VS x) vars1 → TS c e vars1 (HS x) body .next vars2 (HS y) → (∀ k v, (VS y).lookup k = some v → vars2.lookup k = some v) → FStep c e target body f VS HS I a l x
theorem TS_forS {α σ : Type} {f : α → V} {VS : σ → Vars} {HS : σ → List MO} {target iter : Expr} {body rest : List Stmt} {pos : Pos} {fl : Fl} {H' : List MO} {KH : List MO → Prop} {l0 : List α} {x0 : σ} (I : List α → σ → Prop)
    (h1 : ItR c e (VS x0) H iter target (l0.map f) KH (HS x0)) (hI : I l0 x0) (hK : ∀ l x, I l x → KH (HS x)) (hfold : ∀ x, foldedSetIterable iter e.env x = pure x)
    (step : ∀ a l x, I (a :: l) x → FStep c e target body f VS HS I a l x) (hdone : ∀ x, I [] x → TS c e (VS x) (HS x) rest fl vars' H') : TS c e (VS x0) H (.For target iter body [] pos :: rest) fl vars' H' := by
  refine TS_for (fun xs vs H => ∃ l x, xs = l.map f ∧ I l x ∧ vs = VS x ∧ H = HS x) (fun vs H => ∃ x, I [] x ∧ vs = VS x ∧ H = HS x) h1 ⟨l0, x0, rfl, hI, rfl, rfl⟩ hfold ?_ ?_ ?_
  · (intro v xs vs H q12_; (refine e24 q12_ fun l x hl hx q67_ q68_ => ?_; try clear q12_; subst q67_; subst q68_))
    refine ⟨hK _ _ hx, .inl ?_⟩
    cases l with
    | nil => exact cn hl
    | cons a l =>
      injection hl with e1 e2
      subst e1 e2
      cases step a l x hx with
      | go y h1 h2 h3 h4 => exact ⟨_, .next, _, _, h2, TS_weak h3 h4, rfl, l, y, rfl, h1, rfl, rfl⟩
  · (intro vs H q13_; (refine e24 q13_ fun l x hl hx q69_ q70_ => ?_; try clear q13_; subst q69_; subst q70_))
    cases l with
    | cons a l => exact nc hl
    | nil => exact ⟨hK _ _ hx, .inl ⟨_, _, TS_nil, x, hx, rfl, rfl⟩⟩
  · (intro vs H q14_; (refine e13 q14_ fun x hx q71_ q72_ => ?_; try clear q14_; subst q71_; subst q72_))
    exact hdone x hx
end Mine
end

section
set_option linter.all false
namespace Mine
inductive Tree
  | nm (i : Nat)
  | num (a : Nat)
  | pr (l r : Tree)
noncomputable def Tree.sz : Tree → Nat
  | .nm _ => 1
  | .num _ => 1
  | .pr l r => 1 + l.sz + r.sz
noncomputable def Tree.lv : Tree → Nat
  | .nm _ => 1
  | .num _ => 1
  | .pr l r => l.lv + r.lv
noncomputable def Tree.ht : Tree → Nat
  | .nm _ => 0
  | .num _ => 0
  | .pr l r => 1 + max l.ht r.ht
noncomputable def Tree.occ (i : Nat) : Tree → Prop
  | .nm j => j = i
  | .num _ => False
  | .pr l r => l.occ i ∨ r.occ i
noncomputable def Tree.sub (i : Nat) (u : Tree) : Tree → Tree
  | .nm j => if j = i then u else .nm j
  | .num a => .num a
  | .pr l r => .pr (Tree.sub i u l) (Tree.sub i u r)
theorem ht_pr {l r : Tree} : (Tree.pr l r).ht = 1 + max l.ht r.ht := rfl
theorem sz_pr {l r : Tree} : (Tree.pr l r).sz = 1 + l.sz + r.sz := rfl
theorem lv_pr {l r : Tree} : (Tree.pr l r).lv = l.lv + r.lv := rfl
theorem Tree.sz_pos : ∀ t : Tree, 1 ≤ t.sz
  | .nm _ => Nat.le_refl _
  | .num _ => Nat.le_refl _
  | .pr l r => by unfold sz; lia
theorem Tree.lv_pos : ∀ t : Tree, 1 ≤ t.lv
  | .nm _ => Nat.le_refl _
  | .num _ => Nat.le_refl _
  | .pr l r => by unfold lv; have := l.lv_pos; lia
theorem Tree.lv_le : ∀ t : Tree, t.lv ≤ 2 ^ t.ht
  | .nm _ => Nat.le_refl _
  | .num _ => Nat.le_refl _
  | .pr l r => by
    have h1 := l.lv_le
    have h2 := r.lv_le
    have a1 : 2 ^ l.ht ≤ 2 ^ max l.ht r.ht := Nat.pow_le_pow_right (by decide) (Nat.le_max_left _ _)
    have a2 : 2 ^ r.ht ≤ 2 ^ max l.ht r.ht := Nat.pow_le_pow_right (by decide) (Nat.le_max_right _ _)
    unfold lv ht
    rw [Nat.add_comm 1, Nat.pow_succ]; lia
theorem Tree.sz_lt : ∀ t : Tree, t.sz < 2 * t.lv
  | .nm _ => by show 1 < 2 * 1; decide
  | .num _ => by show 1 < 2 * 1; decide
  | .pr l r => by
    have h1 := l.sz_lt
    have h2 := r.sz_lt
    unfold sz lv; lia
theorem Tree.sub_id {i : Nat} {u : Tree} : ∀ t : Tree, ¬ t.occ i → Tree.sub i u t = t
  | .nm j, h => if_neg (show ¬ j = i from h)
  | .num _, _ => rfl
  | .pr l r, h => by
    unfold sub
    rw [Tree.sub_id l fun q => h (.inl q), Tree.sub_id r fun q => h (.inr q)]
noncomputable abbrev KT := List (Nat × (Nat × Nat))
structure KsOk (ks : KT) : Prop where
  key : ∀ p ∈ ks, 5 ≤ p.1 ∧ p.1 < 9 ∧ p.2.1 < 5 ∧ p.2.2 < 5
  srt : (ks.map (·.1)).Pairwise (· < ·)
  few : ks.length ≤ 4
theorem KsOk.uniq {ks : KT} (h : KsOk ks) {p q : Nat × (Nat × Nat)} (hp : p ∈ ks) (hq : q ∈ ks) (e : p.1 = q.1) : p = q := by
  have hs := h.srt
  rw [List.pairwise_map] at hs
  (refine Exists.elim (List.getElem_of_mem hp) fun i q36_ => ?_; obtain ⟨hi, rfl⟩ := q36_)
  (refine Exists.elim (List.getElem_of_mem hq) fun j q38_ => ?_; obtain ⟨hj, rfl⟩ := q38_)
  rw [List.pairwise_iff_getElem] at hs
  (refine Or.elim (Nat.lt_trichotomy i j) (fun z => ?_) (fun o263_ => ?_); rotate_left 1; (refine Or.elim o263_ (fun z => ?_) (fun z => ?_); rotate_left 1; try clear o263_; rotate_right 1; try clear o263_); rotate_right 1)
  · have := hs i j hi hj z; lia
  · subst z; rfl
  · have := hs j i hj hi z; lia
noncomputable def leafV (θ : Nat → Tree) (a : Nat) : Tree := if a < 3 then θ a else .num a
noncomputable def val (ks : KT) (θ : Nat → Tree) (n : Nat) : Tree :=
  match ks.find? (fun p => p.1 == n) with
  | some p => .pr (leafV θ p.2.1) (leafV θ p.2.2)
  | none => leafV θ n
variable {ks : KT} {θ : Nat → Tree}
theorem val_leaf (h : KsOk ks) {n : Nat} (hn : n < 5) : val ks θ n = leafV θ n := by
  unfold val
  have : ks.find? (fun p => p.1 == n) = none := by
    rw [List.find?_eq_none]
    intro p hp; have := h.key p hp; simp; lia
  rw [this]
theorem val_name (h : KsOk ks) {n : Nat} (hn : n < 3) : val ks θ n = θ n := by
  rw [val_leaf h (by lia)]; unfold leafV; rw [if_pos hn]
theorem val_num (h : KsOk ks) {n : Nat} (h1 : 3 ≤ n) (hn : n < 5) : val ks θ n = .num n := by
  rw [val_leaf h hn]; unfold leafV; rw [if_neg (by lia)]
theorem val_pair (h : KsOk ks) {p : Nat × (Nat × Nat)} (hp : p ∈ ks) : val ks θ p.1 = .pr (val ks θ p.2.1) (val ks θ p.2.2) := by
  have hk := h.key p hp
  rw [val_leaf h hk.2.2.1, val_leaf h hk.2.2.2]
  unfold val
  obtain ⟨q, hq⟩ : ∃ q, ks.find? (fun x => x.1 == p.1) = some q := by
    cases e : ks.find? (fun x => x.1 == p.1) with
    | some q => exact ⟨q, rfl⟩
    | none => rw [List.find?_eq_none] at e; exact absurd (e p hp) (by simp)
  have h1 := List.find?_some hq
  have h2 := List.mem_of_find?_eq_some hq
  have : q = p := h.uniq h2 hp (by simpa using h1)
  rw [hq, this]
theorem val_sub {i : Nat} {u : Tree} (n : Nat) : val ks (fun k => Tree.sub i u (θ k)) n = Tree.sub i u (val ks θ n) := by
  have hl : ∀ a, leafV (fun k => Tree.sub i u (θ k)) a = Tree.sub i u (leafV θ a) := fun a => by
    unfold leafV; split <;> rfl
  unfold val
  split
  · rw [hl, hl]; rfl
  · rw [hl]
structure LabOk (ks : KT) (n0 n1 n2 n3 : Nat) (L : Nat → Int) : Prop where
  e0 : L n0 = L n2
  e1 : L n1 = L n3
  cl : ∀ p ∈ ks, ∀ q ∈ ks, L p.1 = L q.1 → L p.2.1 = L q.2.1 ∧ L p.2.2 = L q.2.2
  least : ∀ f : Nat → Tree, f n0 = f n2 → f n1 = f n3 → (∀ p ∈ ks, ∀ q ∈ ks, f p.1 = f q.1 → f p.2.1 = f q.2.1 ∧ f p.2.2 = f q.2.2) → ∀ a b, a < 9 → b < 9 → L a = L b → f a = f b
theorem LabOk.vals {n0 n1 n2 n3 : Nat} {L : Nat → Int} (hL : LabOk ks n0 n1 n2 n3 L) (h : KsOk ks) (e0 : val ks θ n0 = val ks θ n2) (e1 : val ks θ n1 = val ks θ n3) {a b : Nat} (ha : a < 9) (hb : b < 9) (e : L a = L b) : val ks θ a = val ks θ b :=
  hL.least (val ks θ) e0 e1 (fun p hp q hq e => by rw [val_pair h hp, val_pair h hq] at e; injection e with e1 e2; exact ⟨e1, e2⟩) a b ha hb e
noncomputable def ClashDue (ks : KT) (L : Nat → Int) : Prop := L 3 = L 4 ∨ ∃ p ∈ ks, L p.1 = L 3 ∨ L p.1 = L 4
noncomputable def doneF (ks : KT) (L : Nat → Int) (lab : List Int) : Nat → List Int
  | 0 => []
  | s + 1 => lab.filter fun x => ks.all fun p => !(L p.1 == x && !((doneF ks L lab s).contains (L p.2.1) && (doneF ks L lab s).contains (L p.2.2)))
noncomputable def RingDue (ks : KT) (L : Nat → Int) (lab : List Int) : Prop := ∃ x ∈ lab, x ∉ doneF ks L lab 5
inductive Way (ks : KT) (L : Nat → Int) (i : Nat) : Nat → Prop
  | here {m : Nat} : L m = L i → Way ks L i m
  | left {m : Nat} {p : Nat × (Nat × Nat)} : p ∈ ks → L p.1 = L m → Way ks L i p.2.1 → Way ks L i m
  | right {m : Nat} {p : Nat × (Nat × Nat)} : p ∈ ks → L p.1 = L m → Way ks L i p.2.2 → Way ks L i m
theorem mem_doneF {L : Nat → Int} {lab : List Int} {s : Nat} {x : Int} : x ∈ doneF ks L lab (s + 1) ↔ x ∈ lab ∧ ∀ p ∈ ks, L p.1 = x → L p.2.1 ∈ doneF ks L lab s ∧ L p.2.2 ∈ doneF ks L lab s := by
  show x ∈ lab.filter (fun x => ks.all fun p => !(L p.1 == x && !((doneF ks L lab s).contains (L p.2.1) && (doneF ks L lab s).contains (L p.2.2)))) ↔ _
  rw [List.mem_filter]
  simp only [List.all_eq_true, List.contains_iff_mem]
  refine ⟨fun ⟨h1, h2⟩ => ⟨h1, fun p hp e => ?_⟩, fun ⟨h1, h2⟩ => ⟨h1, fun p hp => ?_⟩⟩
  · have := h2 p hp
    simpa [e] using this
  · by_cases e : L p.1 = x
    · have := h2 p hp e
      simp [this.1, this.2]
    · simp [e]
theorem ring_of {L : Nat → Int} {lab : List Int} (hlab : ∀ n, n < 9 → L n ∈ lab) {i : Nat} (hi : i < 9) {p : Nat × (Nat × Nat)} (hp : p ∈ ks) (e : L p.1 = L i) (hw : Way ks L i p.2.1 ∨ Way ks L i p.2.2) : RingDue ks L lab := by
  have key : ∀ s, L i ∉ doneF ks L lab s ∧ ∀ m, Way ks L i m → L m ∉ doneF ks L lab s := by
    intro s
    induction s with
    | zero => exact ⟨fun h => by simp [doneF] at h, fun m _ h => by simp [doneF] at h⟩
    | succ s ih =>
      have h1 : L i ∉ doneF ks L lab (s + 1) := fun h => by
        have := (mem_doneF.mp h).2 p hp e
        (refine Or.elim hw (fun w => ?_) (fun w => ?_); rotate_left 1; try clear hw; rotate_right 1; try clear hw)
        · exact ih.2 _ w this.1
        · exact ih.2 _ w this.2
      refine ⟨h1, fun m w h => ?_⟩
      cases w with
      | here q => rw [q] at h; exact h1 h
      | left hq q w => exact ih.2 _ w ((mem_doneF.mp h).2 _ hq q).1
      | right hq q w => exact ih.2 _ w ((mem_doneF.mp h).2 _ hq q).2
  exact ⟨L i, hlab i hi, (key 5).1⟩
theorem no_clash {L : Nat → Int} (h : KsOk ks) (hv : ∀ a b, a < 9 → b < 9 → L a = L b → val ks θ a = val ks θ b) : ¬ ClashDue ks L := by
  (intro q15_; (refine Or.elim q15_ (fun q => ?_) (fun o264_ => ?_); rotate_left 1; try clear q15_; (refine e12 o264_ fun p hp q15_ => ?_; try clear o264_; (refine Or.elim q15_ (fun q => ?_) (fun q => ?_); rotate_left 1; try clear q15_; rotate_right 1; try clear q15_)); rotate_right 1; try clear q15_))
  · have := hv 3 4 (by decide) (by decide) q
    rw [val_num (n := 3) h (by decide) (by decide), val_num (n := 4) h (by decide) (by decide)] at this
    injection this with z; cases z
  · have hk := h.key p hp
    have := hv p.1 3 (by lia) (by decide) q
    rw [val_pair h hp, val_num (n := 3) h (by decide) (by decide)] at this
    cases this
  · have hk := h.key p hp
    have := hv p.1 4 (by lia) (by decide) q
    rw [val_pair h hp, val_num (n := 4) h (by decide) (by decide)] at this
    cases this
theorem no_ring {L : Nat → Int} {lab : List Int} (h : KsOk ks) (hlab : ∀ x ∈ lab, ∃ n, n < 9 ∧ L n = x) (hl2 : ∀ n, n < 9 → L n ∈ lab) (hv : ∀ a b, a < 9 → b < 9 → L a = L b → val ks θ a = val ks θ b) (hh : ∀ n, n < 9 → (val ks θ n).ht ≤ 4) : ¬ RingDue ks L lab := by
  have key : ∀ s n, n < 9 → (val ks θ n).ht < s → L n ∈ doneF ks L lab s := by
    intro s
    induction s with
    | zero => intro n _ q; exact absurd q (Nat.not_lt_zero _)
    | succ s ih =>
      intro n hn q
      refine mem_doneF.mpr ⟨hl2 n hn, fun p hp e => ?_⟩
      have hk := h.key p hp
      have := hv p.1 n (by lia) hn e
      rw [← this, val_pair h hp] at q
      unfold Tree.ht at q
      exact ⟨ih _ (by lia) (by lia), ih _ (by lia) (by lia)⟩
  (intro q16_; (refine e12 q16_ fun x hx hn => ?_; try clear q16_))
  (refine e12 (hlab x hx) fun n h9 q73_ => ?_; subst q73_)
  exact hn (key 5 n h9 (by have := hh n h9; lia))
end Mine
end

section
set_option linter.all false
set_option maxRecDepth 100000
namespace Mine
noncomputable def inCls (ks : KT) (lab : List Int) (v : Int) : KT := ks.filter fun p => lab[p.1]? == some v
noncomputable def addsOf : KT → List (Nat × Nat)
  | [] => []
  | p :: rest => rest.flatMap fun q => [(p.2.1, q.2.1), (p.2.2, q.2.2)]
inductive Cls (ks : KT) : List Int → Nat → List (Nat × Nat) → List Int → Prop
  | nil {lab : List Int} : Cls ks lab 0 [] lab
  | same {lab lab' : List Int} {n one two : Nat} {v : Int} {td : List (Nat × Nat)} : td.length + 1 ≤ 500 → lab[one]? = some v → lab[two]? = some v → Cls ks lab n td lab' → Cls ks lab (n + 1) (td ++ [(one, two)]) lab'
  | merge {lab lab' : List Int} {n one two : Nat} {mine old : Int} {td : List (Nat × Nat)} : td.length + 1 ≤ 500 → lab[one]? = some mine → lab[two]? = some old → mine ≠ old →
      Cls ks (lab.map fun x => if x = old then mine else x) n (td ++ addsOf (inCls ks (lab.map fun x => if x = old then mine else x) mine)) lab' → Cls ks lab (n + 1) (td ++ [(one, two)]) lab'
noncomputable def labL (L : Nat → Int) : List Int := (List.range 9).map L
theorem labL_get (L : Nat → Int) {k : Nat} (h : k < 9) : (labL L)[k]? = some (L k) := by
  unfold labL; rw [List.getElem?_map, List.getElem?_range h]; rfl
theorem labL_map (L : Nat → Int) (g : Int → Int) : (labL L).map g = labL fun n => g (L n) := by
  unfold labL; rw [List.map_map]; rfl
noncomputable def dist (L : Nat → Int) : Nat := (List.range 9).countP fun (j : Nat) => (List.range 9).any fun a => L a == (j : Int)
theorem countP_lt {α : Type} {P Q : α → Bool} : ∀ {l : List α}, (∀ a ∈ l, Q a = true → P a = true) → (∃ a ∈ l, P a = true ∧ Q a = false) → l.countP Q + 1 ≤ l.countP P
  | [], _, ⟨a, h, _⟩ => by cases h
  | b :: l, h, ⟨a, ha, h1, h2⟩ => by
    have hm : l.countP Q ≤ l.countP P := List.countP_mono_left fun x hx => h x (.tail _ hx)
    rw [List.countP_cons, List.countP_cons]
    (refine Or.elim (List.mem_cons.mp ha) (fun o265_ => ?_) (fun ha => ?_); subst o265_)
    · rw [if_pos h1, if_neg (by rw [h2]; decide)]; lia
    · have ih := countP_lt (fun x hx => h x (.tail _ hx)) ⟨a, ha, h1, h2⟩
      have := h b (.head _)
      by_cases q : Q b = true
      · rw [if_pos q, if_pos (this q)]; lia
      · rw [if_neg q]; split <;> lia
variable {ks : KT}
noncomputable def GoodF (ks : KT) (n0 n1 n2 n3 : Nat) (f : Nat → Tree) : Prop := f n0 = f n2 ∧ f n1 = f n3 ∧ ∀ p ∈ ks, ∀ q ∈ ks, f p.1 = f q.1 → f p.2.1 = f q.2.1 ∧ f p.2.2 = f q.2.2
theorem mem_inCls {L : Nat → Int} (hk : KsOk ks) {v : Int} {p : Nat × (Nat × Nat)} : p ∈ inCls ks (labL L) v ↔ p ∈ ks ∧ L p.1 = v := by
  unfold inCls
  rw [List.mem_filter]
  refine ⟨fun ⟨h1, h2⟩ => ⟨h1, ?_⟩, fun ⟨h1, h2⟩ => ⟨h1, ?_⟩⟩
  · rw [labL_get L (hk.key p h1).2.1] at h2; simpa using h2
  · rw [labL_get L (hk.key p h1).2.1]; simpa using h2
theorem adds_len (ps : KT) : (addsOf ps).length ≤ 2 * (ps.length - 1) := by
  cases ps with
  | nil => exact Nat.zero_le _
  | cons p rest =>
    show (rest.flatMap fun q => [(p.2.1, q.2.1), (p.2.2, q.2.2)]).length ≤ 2 * (rest.length + 1 - 1)
    rw [Nat.add_sub_cancel]
    induction rest with
    | nil => exact Nat.le_refl _
    | cons q rest ih => rw [List.flatMap_cons, List.length_append, List.length_cons]; simp only [List.length_cons, List.length_nil]; lia
theorem mem_adds {ps : KT} {z : Nat × Nat} (h : z ∈ addsOf ps) : ∃ p ∈ ps, ∃ q ∈ ps, z = (p.2.1, q.2.1) ∨ z = (p.2.2, q.2.2) := by
  cases ps with
  | nil => cases h
  | cons p rest =>
    (refine e12 (List.mem_flatMap.mp h) fun q hq hz => ?_)
    refine ⟨p, .head _, q, .tail _ hq, ?_⟩
    simpa using hz
theorem adds_all {α : Type} {ps : KT} {f : Nat → α} (h : ∀ z ∈ addsOf ps, f z.1 = f z.2) : ∀ p ∈ ps, ∀ q ∈ ps, f p.2.1 = f q.2.1 ∧ f p.2.2 = f q.2.2 := by
  cases ps with
  | nil => intro p hp; cases hp
  | cons r rest =>
    have key : ∀ p ∈ r :: rest, f r.2.1 = f p.2.1 ∧ f r.2.2 = f p.2.2 := fun p hp => by
      (refine Or.elim (List.mem_cons.mp hp) (fun o266_ => ?_) (fun hp => ?_); subst o266_)
      · exact ⟨rfl, rfl⟩
      · exact ⟨h (r.2.1, p.2.1) (List.mem_flatMap.mpr ⟨p, hp, by simp⟩), h (r.2.2, p.2.2) (List.mem_flatMap.mpr ⟨p, hp, by simp⟩)⟩
    intro p hp q hq
    have h1 := key p hp
    have h2 := key q hq
    exact ⟨h1.1.symm.trans h2.1, h1.2.symm.trans h2.2⟩
theorem cls_ex (hk : KsOk ks) {n0 n1 n2 n3 : Nat} : ∀ (N : Nat) (L : Nat → Int) (td : List (Nat × Nat)), 7 * dist L + td.length ≤ N → N ≤ 100 → (∀ n, n < 9 → 0 ≤ L n ∧ L n < 9) → (∀ z ∈ td, z.1 < 9 ∧ z.2 < 9) →
    (∀ f, GoodF ks n0 n1 n2 n3 f → (∀ a b, a < 9 → b < 9 → L a = L b → f a = f b) ∧ ∀ z ∈ td, f z.1 = f z.2) →
    (∀ f : Nat → Int, (∀ a b, a < 9 → b < 9 → L a = L b → f a = f b) → (∀ z ∈ td, f z.1 = f z.2) → f n0 = f n2 ∧ f n1 = f n3 ∧ ∀ p ∈ ks, ∀ q ∈ ks, L p.1 = L q.1 → f p.2.1 = f q.2.1 ∧ f p.2.2 = f q.2.2) →
    ∃ n L', Cls ks (labL L) n td (labL L') ∧ (∀ n, n < 9 → 0 ≤ L' n ∧ L' n < 9) ∧ LabOk ks n0 n1 n2 n3 L' := by
  intro N
  induction N with
  | zero =>
    intro L td h1 _ h2 h3 I1 I2
    match td, h1 with
    | [], _ =>
      (refine e03 (I2 L (fun _ _ _ _ h => h) (fun z hz => by cases hz)) fun a b c => ?_)
      exact ⟨0, L, .nil, h2, ⟨a, b, c, fun f e0 e1 e2 => (I1 f ⟨e0, e1, e2⟩).1⟩⟩
  | succ N ih =>
    intro L td h1 hN h2 h3 I1 I2
    (refine Or.elim (List.eq_nil_or_concat td) (fun o267_ => ?_) (fun o268_ => ?_); rotate_left 1; (refine e21 o268_ fun td z q16_ => ?_; try clear o268_; subst q16_); rotate_right 1; subst o267_)
    · (refine e03 (I2 L (fun _ _ _ _ h => h) (fun z hz => by cases hz)) fun a b c => ?_)
      exact ⟨0, L, .nil, h2, ⟨a, b, c, fun f e0 e1 e2 => (I1 f ⟨e0, e1, e2⟩).1⟩⟩
    rw [List.concat_eq_append] at h1 h3 I1 I2 ⊢
    rw [List.length_append, List.length_singleton] at h1
    obtain ⟨one, two⟩ := z
    have hz := h3 (one, two) (by simp)
    dsimp only at hz
    have h3' : ∀ z ∈ td, z.1 < 9 ∧ z.2 < 9 := fun a ha => h3 a (List.mem_append_left _ ha)
    by_cases e : L one = L two
    · (refine e22 (ih L td (by lia) (by lia) h2 h3' (fun f hf => ⟨(I1 f hf).1, fun z hz => (I1 f hf).2 z (List.mem_append_left _ hz)⟩) (fun f h4 h5 => I2 f h4 fun z hm => by
        (refine Or.elim (List.mem_append.mp hm) (fun hm => ?_) (fun hm => ?_))
        · exact h5 z hm
        · rw [List.mem_singleton.mp hm]; exact h4 one two hz.1 hz.2 e)) fun n L' c r => ?_)
      exact ⟨n + 1, L', .same (v := L one) (by lia) (labL_get L hz.1) (by rw [e]; exact labL_get L hz.2) c, r⟩
    · have hd : dist (fun n => if L n = L two then L one else L n) + 1 ≤ dist L := by
        unfold dist
        refine countP_lt (fun j _ hj => ?_) ⟨(L two).toNat, List.mem_range.mpr (by have := h2 two hz.2; lia), ?_, ?_⟩
        · (refine e12 (List.any_eq_true.mp hj) fun a ha q => ?_)
          rw [List.any_eq_true]
          by_cases w : L a = L two
          · exact ⟨one, List.mem_range.mpr hz.1, by simpa [w] using q⟩
          · exact ⟨a, ha, by simpa [w] using q⟩
        · rw [List.any_eq_true]
          exact ⟨two, List.mem_range.mpr hz.2, by have := h2 two hz.2; simp; lia⟩
        · rw [List.any_eq_false]
          intro a ha
          have := h2 two hz.2
          have e3 : (((L two).toNat : Nat) : Int) = L two := by lia
          rw [e3]
          by_cases w : L a = L two
          · simp [w]; exact e
          · simp [w]
      have emap : (labL L).map (fun x => if x = L two then L one else x) = labL fun n => if L n = L two then L one else L n := labL_map L _
      have hal := adds_len (inCls ks (labL fun n => if L n = L two then L one else L n) (L one))
      have hil : (inCls ks (labL fun n => if L n = L two then L one else L n) (L one)).length ≤ 4 := Nat.le_trans (List.length_filter_le _ _) hk.few
      generalize hL1 : (fun n => if L n = L two then L one else L n) = L1 at *
      have eL1 : ∀ n, L1 n = if L n = L two then L one else L n := fun n => by rw [← hL1]
      have one1 : L1 one = L one := by rw [eL1, if_neg e]
      have two1 : L1 two = L one := by rw [eL1, if_pos rfl]
      have keep1 : ∀ a b, L a = L b → L1 a = L1 b := fun a b h => by rw [eL1, eL1, h]
      have J1 : ∀ f, GoodF ks n0 n1 n2 n3 f → ∀ a b, a < 9 → b < 9 → L1 a = L1 b → f a = f b := fun f hf a b ha hb h => by
        (refine e02 (I1 f hf) fun g1 g2 => ?_)
        have g3 : f one = f two := g2 (one, two) (by simp)
        have nrm : ∀ c, c < 9 → ∃ c', c' < 9 ∧ f c = f c' ∧ L c' = L1 c := fun c hc => by
          by_cases w : L c = L two
          · exact ⟨one, hz.1, (g1 c two hc hz.2 w).trans g3.symm, by rw [eL1, if_pos w]⟩
          · exact ⟨c, hc, rfl, by rw [eL1, if_neg w]⟩
        (refine e13 (nrm a ha) fun a' ha' a1 a2 => ?_)
        (refine e13 (nrm b hb) fun b' hb' b1 b2 => ?_)
        rw [a1, b1]
        exact g1 a' b' ha' hb' (by rw [a2, b2, h])
      (refine e22 (ih L1 (td ++ addsOf (inCls ks (labL L1) (L one))) (by rw [List.length_append]; lia) (by lia) (fun n hn => by rw [eL1]; split; exact h2 one hz.1; exact h2 n hn) (fun z hm => by
          (refine Or.elim (List.mem_append.mp hm) (fun hm => ?_) (fun hm => ?_))
          · exact h3' z hm
          · (refine e12 (mem_adds hm) fun p hp q39_ => ?_; obtain ⟨q, hq, w⟩ := q39_)
            have kp := hk.key p ((mem_inCls hk).mp hp).1
            have kq := hk.key q ((mem_inCls hk).mp hq).1
            (refine Or.elim w (fun o76_ => ?_) (fun o77_ => ?_); rotate_left 1; try clear w; subst o77_; rotate_right 1; try clear w; subst o76_) <;> dsimp only <;> lia) (fun f hf => ⟨J1 f hf, fun z hm => by
          (refine Or.elim (List.mem_append.mp hm) (fun hm => ?_) (fun hm => ?_))
          · exact (I1 f hf).2 z (List.mem_append_left _ hm)
          · (refine e12 (mem_adds hm) fun p hp q40_ => ?_; obtain ⟨q, hq, w⟩ := q40_)
            (refine e02 ((mem_inCls hk).mp hp) fun p1 p2 => ?_)
            (refine e02 ((mem_inCls hk).mp hq) fun q1 q2 => ?_)
            have := hf.2.2 p p1 q q1 (J1 f hf p.1 q.1 (hk.key p p1).2.1 (hk.key q q1).2.1 (by rw [p2, q2]))
            (refine Or.elim w (fun o78_ => ?_) (fun o79_ => ?_); rotate_left 1; try clear w; subst o79_; rotate_right 1; try clear w; subst o78_)
            · exact this.1
            · exact this.2⟩) (fun f h4 h5 => by
          (refine e03 (I2 f (fun x y hx hy h => h4 x y hx hy (keep1 x y h)) (fun z hm => by
            (refine Or.elim (List.mem_append.mp hm) (fun hm => ?_) (fun hm => ?_))
            · exact h5 z (List.mem_append_left _ hm)
            · rw [List.mem_singleton.mp hm]; exact h4 one two hz.1 hz.2 (by rw [one1, two1]))) fun a b c => ?_)
          refine ⟨a, b, fun p hp q hq h => ?_⟩
          by_cases w : L1 p.1 = L one
          · exact adds_all (fun z hm => h5 z (List.mem_append_right _ hm)) p ((mem_inCls hk).mpr ⟨hp, w⟩) q ((mem_inCls hk).mpr ⟨hq, by rw [← h]; exact w⟩)
          · have w2 : L1 q.1 ≠ L one := by rw [← h]; exact w
            have back : ∀ x, L1 x ≠ L one → L1 x = L x := fun x hx => by
              rw [eL1] at hx ⊢
              by_cases v : L x = L two
              · rw [if_pos v] at hx; exact absurd rfl hx
              · rw [if_neg v]
            exact c p hp q hq (by rw [← back _ w, ← back _ w2, h]))) fun n L' c r => ?_)
      exact ⟨n + 1, L', .merge (by lia) (labL_get L hz.1) (labL_get L hz.2) e (by rw [emap]; exact c), r⟩
end Mine
end

section
open PySem PySem.W PyProof.Rows
set_option linter.all false
set_option maxRecDepth 100000
set_option maxHeartbeats 1000000
namespace Mine

theorem strL_toList (x : Str) : strL x.cps.toList = x := by cases x; simp
theorem strL_inj {a b : List Nat} (h : strL a = strL b) : a = b := by injection h with h; simpa using h

noncomputable def unq : List Nat → List Nat
  | [] => []
  | [a] => if a = 34 then [] else [a]
  | a :: b :: r => if a = 34 then (if b = 34 then 34 :: unq r else []) else a :: unq (b :: r)
theorem unq_plain {a : Nat} {r : List Nat} (h : a ≠ 34) : unq (a :: r) = a :: unq r := by
  cases r with
  | nil => unfold unq; rw [if_neg h]
  | cons b r => rw [unq, if_neg h]
noncomputable def escL (l : List Nat) : List Nat := l.flatMap fun a => if a = 34 then [34, 34] else [a]
theorem escL_cons (a : Nat) (l : List Nat) : escL (a :: l) = (if a = 34 then [34, 34] else [a]) ++ escL l := rfl
theorem unq_esc {t : List Nat} (ht : t.head? ≠ some 34) : ∀ l, unq (escL l ++ 34 :: t) = l
  | [] => by
    show unq (34 :: t) = []
    cases t with
    | nil => rfl
    | cons b r =>
      rw [unq, if_pos rfl, if_neg (fun h => ht (by rw [h]; rfl))]
  | a :: l => by
    rw [escL_cons]
    by_cases h : a = 34
    · subst h
      show unq (34 :: 34 :: (escL l ++ 34 :: t)) = _
      rw [unq, if_pos rfl, if_pos rfl, unq_esc ht l]
    · rw [if_neg h]
      show unq (a :: (escL l ++ 34 :: t)) = _
      rw [unq_plain h, unq_esc ht l]
theorem escL_len : ∀ l, (escL l).length = l.length + l.countP (· == 34)
  | [] => rfl
  | a :: l => by
    rw [escL_cons, List.length_append, escL_len l, List.countP_cons, List.length_cons]
    by_cases h : a = 34
    · subst h; simp; lia
    · simp [h]; lia

theorem len_list (l : List Nat) : (strL l).cps.toList = l := by simp
theorem slice_to {l : List Nat} {n : Nat} (h : n ≤ l.length) : Txt.slice (strL l) none (some (n : Int)) = strL (l.take n) := by
  have := beq_iff_eq.mp (slice_closes_to (x := strL l) (j := n) ⟨by lia, by rw [len_list]; lia⟩)
  rw [this, len_list]; simp
theorem slice_mid {l : List Nat} {a b : Nat} (h : a ≤ b) (h2 : b ≤ l.length) : Txt.slice (strL l) (some (a : Int)) (some (b : Int)) = strL ((l.drop a).take (b - a)) := by
  have := beq_iff_eq.mp (slice_closes (x := strL l) (i := a) (j := b) ⟨by lia, by lia, by rw [len_list]; lia⟩)
  rw [this, len_list]
  congr 1
  simp
theorem slice_fr {l : List Nat} {a : Nat} (h : a ≤ l.length) : Txt.slice (strL l) (some (a : Int)) none = strL (l.drop a) := by
  have := beq_iff_eq.mp (slice_closes_from (x := strL l) (i := a) ⟨by lia, by rw [len_list]; lia⟩)
  rw [this, len_list]
  congr 1
  simp
  rw [List.take_of_length_le (by simp)]

open Builtin.Str in
theorem at_one {x : Str} {c i : Nat} : StrLaws.At x ⟨#[c]⟩ x.length i ↔ x.cps.toList[i]? = some c := by
  unfold StrLaws.At
  rw [StrLaws.subAt_eq]
  have h1 : (⟨#[c]⟩ : Str).length = 1 := rfl
  have h2 : (⟨#[c]⟩ : Str).cps.toList = [c] := rfl
  rw [h1, h2]
  constructor
  · (intro q17_; (refine e02 q17_ fun a b => ?_; try clear q17_))
    have b' := beq_iff_eq.mp b
    have := List.getElem?_drop (xs := x.cps.toList) (i := i) (j := 0)
    cases hd : x.cps.toList.drop i with
    | nil => rw [hd] at b'; exact nc b'
    | cons y r =>
      rw [hd] at b' this
      simp at b'; subst b'
      simpa using this.symm
  · intro h
    have hi : i < x.cps.toList.length := by
      (refine Or.elim (Nat.lt_or_ge i x.cps.toList.length) (fun z => ?_) (fun z => ?_))
      · exact z
      · rw [List.getElem?_eq_none z] at h; exact ns h
    refine ⟨by have : x.length = x.cps.toList.length := by simp [Str.length]
               lia, ?_⟩
    rw [List.drop_eq_getElem_cons hi]
    rw [List.getElem?_eq_getElem hi] at h
    (replace h := Option.some.inj h; subst h)
    simp
theorem find_at {l pre post : List Nat} {c : Nat} (h : l = pre ++ c :: post) (hn : c ∉ pre) : Txt.find (strL l) ⟨#[c]⟩ = (pre.length : Int) := by
  subst h
  unfold Txt.find
  (refine Or.elim (StrLaws.occ_head (strL (pre ++ c :: post)) ⟨#[c]⟩ 1 (Nat.le_refl _)) (fun o273_ => ?_) (fun o274_ => ?_); rotate_left 1; (refine e23 o274_ fun i r h0 ha hf => ?_; try clear o274_); rotate_right 1; (refine e02 o273_ fun h0 hf => ?_; try clear o273_))
  · exact absurd (at_one.mpr (by rw [len_list]; simp)) (hf pre.length)
  · rw [h0]
    have ha' := at_one.mp ha
    rw [len_list] at ha'
    have h1 : ¬ i < pre.length := fun q => by
      rw [List.getElem?_append_left q] at ha'
      exact hn (List.mem_of_getElem? ha')
    have h2 : ¬ pre.length < i := fun q => hf _ q (at_one.mpr (by rw [len_list]; simp))
    show (i : Int) = _
    lia
theorem find3_at {l p1 p2 post : List Nat} {c : Nat} {i : Int} (h : l = p1 ++ (p2 ++ c :: post)) (hi : i = (p1.length : Int)) (hn : c ∉ p2) : Txt.find3 (strL l) ⟨#[c]⟩ i = ((p1.length + p2.length : Nat) : Int) := by
  subst h hi
  unfold Txt.find3
  have hf0 : fromIndex (strL (p1 ++ (p2 ++ c :: post))).length (p1.length : Int) = p1.length := by
    unfold fromIndex
    rw [if_neg (by lia)]
    lia
  rw [hf0]
  have hat : (p1 ++ (p2 ++ c :: post))[p1.length + p2.length]? = some c := by
    rw [List.getElem?_append_right (by lia), List.getElem?_append_right (by lia)]
    simp
  (refine Or.elim (StrLaws.occ_head_from (strL (p1 ++ (p2 ++ c :: post))) ⟨#[c]⟩ p1.length 1 (Nat.le_refl _)) (fun o277_ => ?_) (fun o278_ => ?_); rotate_left 1; (refine e24 o278_ fun j r h0 hj ha hf => ?_; try clear o278_); rotate_right 1; (refine e02 o277_ fun h0 hf => ?_; try clear o277_))
  · exact absurd (at_one.mpr (by rw [len_list]; exact hat)) (hf (p1.length + p2.length) (by lia))
  · rw [h0]
    have ha' := at_one.mp ha
    rw [len_list] at ha'
    have h1 : ¬ j < p1.length + p2.length := fun q => by
      rw [List.getElem?_append_right hj, List.getElem?_append_left (by lia)] at ha'
      exact hn (List.mem_of_getElem? ha')
    have h2 : ¬ p1.length + p2.length < j := fun q => hf _ (by lia) q (at_one.mpr (by rw [len_list]; exact hat))
    show (j : Int) = _
    lia

noncomputable def joinL (c : Nat) : List (List Nat) → List Nat
  | [] => []
  | [x] => x
  | x :: y :: r => x ++ c :: joinL c (y :: r)
theorem joinL_cons2 (c : Nat) (x : List Nat) {r : List (List Nat)} (h : r ≠ []) : joinL c (x :: r) = x ++ c :: joinL c r := by
  cases r with
  | nil => exact absurd rfl h
  | cons y r => rfl
theorem free_split {c : Nat} : ∀ {x x' r r' : List Nat}, c ∉ x → c ∉ x' → x ++ c :: r = x' ++ c :: r' → x = x' ∧ r = r'
  | [], [], r, r', _, _, h => by simpa using h
  | [], b :: x', r, r', _, h2, h => by
    simp at h; exact absurd (h.1 ▸ .head _) h2
  | a :: x, [], r, r', h1, _, h => by
    simp at h; exact absurd (h.1 ▸ .head _) h1
  | a :: x, b :: x', r, r', h1, h2, h => by
    simp at h
    (refine e02 (free_split (fun q => h1 (.tail _ q)) (fun q => h2 (.tail _ q)) h.2) fun e1 e2 => ?_)
    exact ⟨by rw [h.1, e1], e2⟩
theorem joinL_inj {c : Nat} : ∀ {ps qs : List (List Nat)}, ps ≠ [] → qs ≠ [] → (∀ p ∈ ps, c ∉ p) → (∀ q ∈ qs, c ∉ q) → joinL c ps = joinL c qs → ps = qs
  | [x], [y], _, _, _, _, h => by simpa [joinL] using h
  | [x], y :: z :: r, _, _, h1, h2, h => by
    rw [joinL_cons2 c y (by simp)] at h
    have : c ∈ x := by show c ∈ joinL c [x]; rw [h]; simp
    exact absurd this (h1 x (.head _))
  | x :: y :: r, [z], _, _, h1, h2, h => by
    rw [joinL_cons2 c x (by simp)] at h
    have : c ∈ z := by show c ∈ joinL c [z]; rw [← h]; simp
    exact absurd this (h2 z (.head _))
  | x :: y :: r, x' :: y' :: r', _, _, h1, h2, h => by
    rw [joinL_cons2 c x (by simp), joinL_cons2 c x' (by simp)] at h
    (refine e02 (free_split (h1 x (.head _)) (h2 x' (.head _)) h) fun e1 e2 => ?_)
    have := joinL_inj (ps := y :: r) (qs := y' :: r') (by simp) (by simp) (fun p hp => h1 p (.tail _ hp)) (fun q hq => h2 q (.tail _ hq)) e2
    rw [e1, this]
theorem join_joinL (c : Nat) : ∀ ps : List Str, (Str.join ⟨#[c]⟩ ps).cps.toList = joinL c (ps.map fun p => p.cps.toList)
  | [] => rfl
  | [x] => rfl
  | x :: y :: r => by
    have ih := join_joinL c (y :: r)
    show ((x ++ (⟨#[c]⟩ : Str) ++ Str.join ⟨#[c]⟩ (y :: r)) : Str).cps.toList = _
    rw [Str.cps_append, Str.cps_append, Array.toList_append, Array.toList_append, ih]
    simp [joinL]
theorem split_is {l : List Nat} {c : Nat} {ps : List (List Nat)} (hp : ps ≠ []) (hf : ∀ p ∈ ps, c ∉ p) (hj : joinL c ps = l) : Txt.split (strL l) ⟨#[c]⟩ = ps.map strL := by
  subst hj
  have h1 := StrLaws.join_split (strL (joinL c ps)) ⟨#[c]⟩
  have h2 := join_joinL c (Txt.split (strL (joinL c ps)) ⟨#[c]⟩)
  rw [h1, len_list] at h2
  have h3 : (Txt.split (strL (joinL c ps)) ⟨#[c]⟩) ≠ [] := fun q => by
    have := PyProof.Rows.split_pos (strL (joinL c ps)) ⟨#[c]⟩
    rw [q] at this; simp at this
  have := joinL_inj hp (by simpa using h3) hf (fun q hq => by
    (refine e12 (List.mem_map.mp hq) fun p hp q74_ => ?_; subst q74_)
    exact StrLaws.split_free (strL (joinL c ps)) c p hp) h2
  conv => rhs; rw [this, List.map_map]
  conv => lhs; rw [← List.map_id (Txt.split (strL (joinL c ps)) ⟨#[c]⟩)]
  apply List.map_congr_left
  intro p _
  exact (strL_toList p).symm
end Mine
end

section
open PySem PySem.W PyProof.Rows PySem.Calls PyProof.Rows.LCg
set_option Elab.async false
set_option linter.all false
set_option maxRecDepth 100000
set_option maxHeartbeats 2000000
namespace Mine
variable {c : Amb} {e : Sc} {vars vars' vars'' : Vars} {H H1 H2 H3 : List MO}
set_option hygiene false in
local macro_rules | `(tactic| walk_at "z0") => `(tactic| (simp [*]; done))
set_option hygiene false in
local macro_rules | `(tactic| walk_at "z1") => `(tactic| (kxi_len))
set_option hygiene false in
local macro_rules | `(tactic| walk_at "z2") => `(tactic| (intro _ _; with_unfolding_all rfl))
set_option hygiene false in
local macro_rules | `(tactic| walk_at "z3") => `(tactic| ((with_reducible refine PO_divI ?_ ?_); decide; exact fun _ _ _ => .inl (by rfl)))
set_option hygiene false in
local macro_rules | `(tactic| walk_at "z4") => `(tactic| (boot_fast))
set_option hygiene false in
local macro_rules | `(tactic| walk_at "z5") => `(tactic| (simp only [List.length_cons, List.length_nil, sizeLine_eq]; decide))
set_option hygiene false in
local macro_rules | `(tactic| walk_at "z6") => `(tactic| (exact fun h => nomatch h))
set_option hygiene false in
local macro_rules | `(tactic| walk_at "z7") => `(tactic| (intro s vs hv X; obtain ⟨a, e⟩ := len1 hv; subst e; exact BindsTo.of_eq rfl))
set_option hygiene false in
local macro_rules | `(tactic| walk_at "z8") => `(tactic| (intro s vs hv X; obtain ⟨a, b, e⟩ := len2 hv; subst e; exact BindsTo.of_eq rfl))
set_option hygiene false in
local macro_rules | `(tactic| walk_at "z9") => `(tactic| (intro s vs hv X; obtain ⟨a, b, d, e⟩ := len3 hv; subst e; exact BindsTo.of_eq rfl))
set_option hygiene false in
local macro_rules | `(tactic| walk_at "z10") => `(tactic| (simp only [Str.length_append, len_item, len_mul3, sizeLine_eq]; first | decide | lia))
set_option hygiene false in
local macro_rules | `(tactic| walk_at "z11") => `(tactic| (exact len_item _ _))
set_option hygiene false in
local macro_rules | `(tactic| walk_at "z12") => `(tactic| (simp only [List.length_cons, List.length_nil]; decide))
set_option hygiene false in
local macro_rules | `(tactic| walk_at "z13") => `(tactic| (exact of_decide_eq_true (by with_unfolding_all rfl)))
set_option hygiene false in
local macro_rules | `(tactic| walk_at "z14") => `(tactic| (k_exc))
set_option hygiene false in
local macro_rules | `(tactic| walk_at "z15") => `(tactic| (simp [V.D, V.D0, Vs.D0, kqdOk, *]; done))
set_option hygiene false in
local macro_rules | `(tactic| walk_at "z16") => `(tactic| (simp [V.D, V.D0, Vs.D0]; done))
set_option hygiene false in
local macro_rules | `(tactic| walk_at "z17") => `(tactic| (intro es nn h1 h2; first | exact hlk_some h1 (by intro hh t xv; with_unfolding_all rfl) | exact hlk_none h2 (by with_unfolding_all rfl)))
set_option hygiene false in
local macro_rules | `(tactic| walk_at "z18") => `(tactic| (rw [sizeLine_eq]; lia))
set_option hygiene false in
local macro_rules | `(tactic| walk_at "z19") => `(tactic| (rw [sizeLine_eq]; decide))
set_option hygiene false in
local macro_rules | `(tactic| walk_at "z20") => `(tactic| (dsimp only [namesOf]; walk_at "stores2"))
set_option hygiene false in
local macro_rules | `(tactic| walk_at "z21") => `(tactic| (exact List.forall_mem_nil _))
local macro_rules | `(tactic| walk_at "z22") => `(tactic| (refine' List.forall_mem_cons.mpr ⟨?a, ?b⟩; (case a => walk_at "store"); (case b => walk_at "stores2")))
set_option hygiene false in
local macro_rules | `(tactic| walk_at "z23") => `(tactic| (intro C; walk_at "cap1"))
set_option hygiene false in
local macro_rules | `(tactic| walk_at "z24") => `(tactic| (intro y v hl; exact lookup_pre hl))
set_option hygiene false in
local macro_rules | `(tactic| walk_at "z25") => `(tactic| (exact PC_m (parse257_1 ‹_› ‹_› ‹_›) (by assumption) (by assumption) (by rfl)))
set_option hygiene false in
local macro_rules | `(tactic| walk_at "z26") => `(tactic| (exact PC_m (parse257_0 ‹_› ‹_› ‹_›) (by assumption) (by assumption) (by rfl)))
set_option hygiene false in
local macro_rules | `(tactic| walk_at "z27") => `(tactic| (decide +kernel))
set_option hygiene false in
local macro_rules | `(tactic| walk_at "z28") => `(tactic| (rw [sizeLine_eq]; simp))
set_option hygiene false in
local macro_rules | `(tactic| walk_at "z29") => `(tactic| (simp))
set_option hygiene false in
local macro_rules | `(tactic| walk_at "z30") => `(tactic| (simp only [Str.length_append, len_item, len_mul3, sizeLine_eq]; lia))
set_option hygiene false in
local macro_rules | `(tactic| walk_at "z31") => `(tactic| (rw [List.length_map]; assumption))
set_option hygiene false in
local macro_rules | `(tactic| walk_at "z32") => `(tactic| (rw [sizeLine_eq]; simp; done))
set_option hygiene false in
local macro_rules | `(tactic| walk_at "z33") => `(tactic| (intros; rfl))
set_option hygiene false in
local macro_rules | `(tactic| walk_at "z34") => `(tactic| (simp; done))
def mapC (f : String → Lean.MacroM Lean.Syntax) : List String → Lean.MacroM (List Lean.Syntax)
  | [] => return []
  | a :: l => do return (← f a) :: (← mapC f l)
def foldC (f : Lean.TSyntax `tactic → String → Lean.MacroM (Lean.TSyntax `tactic)) : Lean.TSyntax `tactic → List String → Lean.MacroM (Lean.TSyntax `tactic)
  | t, [] => return t
  | t, a :: l => do foldC f (← f t a) l
open Lean in
def codeC (k : String) : MacroM (TSyntax `tactic) :=
  if k == "u" then `(tactic| with_unfolding_all rfl) else if k == "k" then `(tactic| k_is) else if k == "as" then `(tactic| assumption) else if k == "d" then `(tactic| decide)
  else if k == "r" then `(tactic| rfl) else if k == "l" then `(tactic| lia) else `(tactic| walk_at $(quote k):str)
open Lean in
def holeC (x : String) : MacroM Ident := do return mkIdent (← Macro.addMacroScope x.toName)
open Lean in
def oneC (a : String) : MacroM Syntax := do
  let ws := (a.splitOn " ").filter (· != "")
  let hd := ws.headD ""
  if hd.startsWith "=" then codeC (hd.drop 1).toString
  else
    let w0 := (a.splitOn ":").length == 1
    let args ← mapC (fun w => do
      let x := (w.splitOn ":").headD ""
      if w.startsWith "%" then return mkIdent (w.drop 1).toString.toName
      else if x.contains '=' then
        let n := (x.splitOn "=").headD ""
        let h ← holeC ((x.splitOn "=").getLastD "")
        `(Lean.Parser.Term.namedArgument| ($(mkIdent n.toName):ident := ?$h))
      else
        let h ← holeC x
        `(term| ?$h)) (ws.tail.takeWhile (· != ";"))
    let f := mkIdent hd.toName
    let e : Term := if args.isEmpty then f else ⟨mkNode ``Lean.Parser.Term.app #[f, mkNullNode args.toArray]⟩
    if w0 then `(tactic| with_reducible exact $e)
    else
      foldC (fun t w => do
        if w.contains ':' then
          let h ← holeC ((w.splitOn ":").headD "")
          let c ← `(Lean.Parser.Tactic.caseArg| $h:ident)
          let k ← codeC ((w.splitOn ":").getLastD "")
          `(tactic| ($t:tactic; case $c => $k:tactic))
        else return t) (← `(tactic| with_reducible refine' $e)) ws.tail
open Lean in
local macro_rules
  | `(tactic| walk_at $s:str) => do
    let str := s.getString
    let key := str ++ ">"
    let alts ← if str.startsWith "!" then pure (str.drop 1).toString else match (("bool>=r|=as|=d|=y0|=z0#po>PO_isnNN a:r|PO_isnN|PO_addI|PO_iaddI|PO_addS a:len|PO_itemS' hk:z1 h0:l h1:l hn:d hs:z2|PO_itemS2 hh:y2 hs:z2|PO_itemT j=j hi hx hj hs ; hi:u hx:r hj:d hs:z2|PO_itemL j=j hi hx hj hs ; hi:u hx:r hj:d hs:z2|PO_mulS' hk:len1 a:l|PO_mulI a:y3|PO_subI|PO_modI a:d|=z3|PO_ltI|PO_geI|PO_eqI|PO_neI|PO_eqS|PO_neS|PO_eqV a:kqd b:kqd u:room h:eqd|PO_neV a:kqd b:kqd u:room h:eqd#te>TE_var a:u|TE_glob a:u b:k|TE_boot a:u b:k c:z4|TE_int|TE_str|TE_bool|TE_none|TE_bin a:te b:te c:po|TE_cmp hm=m a b c ; m:u a:te b:te c:po|TE_ifB a:tb b:y4|TE_attr a:te hi:as hj:as f1:k f2:k f3:k f4:k|TE_imethK a hi hj l f1 f2 f3 k b d m n r he hs hkw ; a:te hi:as hj:as he:u l:hlk f1:k f2:k f3:k k:kept hs:u hkw:u b:te d:te m:mk n:as r:room|TE_imeth a hi hj l f1 f2 f3 k b d he hs hp ; a:te hi:as hj:as he:u hs:u hp:u l:hlk f1:k f2:k f3:k k:kept b:tes d:pc|TE_imeth0 a hi hj l f1 f2 f3 k d he ; a:te hi:as hj:as he:u l:hlk f1:k f2:k f3:k k:kept d:pc|TE_sliceO a:te q:as s:szl|TE_call0 a:te b:kept c:pc|TE_callF m r f k a b he ; f:te he:u a:te b:tef m:pcF r:room k:kept|TE_call he=m hp=m2 a b c d ; m:u m2:u a:te b:kept c:tes d:pc|TE_slice a:te b:part c:part d:psl|TE_sub a:te b:te c:po|TE_replace a:te b:len z:len c:d d:as hb:u hl:u hs:u|TE_meth0 a:te b:mth c:pc hb:u hf:u hl:u|TE_meth a b c d hb hf hl hp he ; a:te b:mth he:u hp:u c:tes d:pc hb:u hf:u hl:u|TE_listF hl=m a ; a:tes m:z5|TE_tuple hl=m a ; a:tes m:z5#tes>TEs_nil|TEs_cons hs=m a b ; m:u a:te b:tes#kept>Kept.builtin|Kept.type|Kept.def a:k#tb>TB_and0|TB_or0|TB_isor nb a b a2 b2 t m m2 ; m:u m2:u nb:as a:te b:te a2:te b2:te t:as|TB_orB a:tb b:y5|TB_andB a:tb b:y5|TB_cmp hm=m a b c ; m:u a:te b:te c:po|TB_not a:tb|TB_plain hp=m a ; m:u a:te|TB_plainN hp=m a ; m:u a:te#ts1>TS1_return a:te|TS1_assign hs=m a b ; m:u b:store a:te|TS1_ifB a:tb b:y6|TS1_break|TS1_setattr v a hi hj f1 f2 f3 f4 m ; m:u v:te a:te hi:as hj:as f1:k f2:k f3:k f4:k|TS1_setall v a q l m ; m:u v:te a:te q:as l:as|TS1_setitem v a b hi hj f1 f2 f3 h n r m ; m:u v:te a:te b:te hi:as hj:as f1:k f2:k f3:k h:as n:as r:room|TS1_delitem a:te b:te hi:as hj:as f1:k f2:k f3:k h:as n:as r:room|TS1_swap2 a b d m w ; m:u w:u a:te b:store d:store|TS1_atup a b m w ; m:u w:u a:te b:tas|TS1_aug a:u b:te d:po h:store|TS1_expr hv=v hi=i hs=m a ; m:u i:u a:te v:r#ts>TS_nil|TS_nil0|TS_sq a:ts1 b:y7#binds1>=z7#binds2>=z8#binds3>=z9#len>=as|=d|=l|=z10#len1>=z11|=z1#part>Part_none|Part_some a:te#psl>PSl_str a:len#mth>Mth_str %F.slot_str_find %F.type_str_find|Mth_str %F.slot_str_split %F.type_str_split|Mth_str %F.slot_str_lower %F.type_str_lower|Mth_str %F.slot_str_join %F.type_str_join#pcF>=as#pc>PC_m a:as n:as r:as l:r|PC_lenS a:len|PC_lenS' a:y8|PC_lenF a:z12|PC_strI a:log|PC_find|PC_find3|PC_hasattr|PC_split' s:as a:y9 b:len|PC_split a:d b:len|PC_lower a:len|PC_intS a:as b:len#log>=as|log_of a:l#store>TStore.lo a:u|TStore.ow a:z13#txs>TX_here a:tx1|TX_next a:ts1 b:txs#tx1>TX_if' a:tb q:bool b:txs|TX_raise h1 h2 h3 h4 h5 h6 h7 h8 ; h1:r h2:k h4:r h3:z14 h5:u h6:d h7:u h8:d#nx>TS_next a b ; a:ts1#tef>TEF_str|TEF_lower a b hb hl ; hb:u hl:u a:te b:len#room>=as|Room.u a:as|room_of a:as b:r#kqd>=as|=r|=z15#eqd>=as|eqV_false a:z16|neV_true a:z16|eqV_true a:z16|neV_false a:z16#hlk>=z17#mk>=as#szl>=as|=z18|=z19#tas>TAs_name a:store|TAs_tup' a:u b:stores l:r|TAs_lst' a:u b:stores l:r#stores>=z20#stores2>=z21|=z22#cap>=z23#cap1>CapOk.nil|CapOk.cons r a b d h ; a:u b:u d:u h:u r:cap1#ext>=z24#y0>decide_eq_true a:l|decide_eq_false a:l#y1>and3 a:l b:l d:l#y2>=as|=y1#y3>Or.inl a:d|Or.inr a:d#y4>BrE.t a:bool b:te|BrE.f a:bool b:te#y5>BrB.s a:bool b:r d:r|BrB.n a:bool b:tb#y6>BrS.t a:bool b:ts|BrS.f a:bool b:ts#y7>SqS.n a:r b:ts|SqS.s a:z6 b:r d:r h:r#y8>=as|=z12#y9>=as|=d#y10>Or.inl a:z27|Or.inr a:z27#y11>=as|=z32#y12>=r|=as#y13>=d|=as#y14>=d|=z34" : String).splitOn "#").find? (·.startsWith key) with
      | some r => pure (r.drop key.length).toString
      | none => Macro.throwUnsupported
    let ts ← mapC oneC (alts.splitOn "|")
    let ts : Array (TSyntax `tactic) := ts.toArray.map fun t => ⟨t⟩
    `(tactic| first $[| $ts:tactic]*)
theorem fill_frag : (top0.heap_1 = top0.heap_1) ∧ (PySem.Challenge.rw_kl0209_01 = PySem.Challenge.rw_kl0209_01) := by
  k_fill; exact ⟨rfl, rfl⟩
section
noncomputable def leafS (a b : Int) : Str := if a < 3 then Txt.item (lit "xyzXYZ") (a + b.fmod 2 * 3) else lit "229)(" ++ Txt.mul (Txt.item (lit "|!/") (b.fmod 3)) 3 ++ Str.ofString (toString (7 * a)) ++ Txt.item (lit "|!/") (b.fmod 3) ++ lit ")()"
theorem leaf_meets1 {w : World} {a b : Int} (h : 0 ≤ a ∧ a < 3) : Meets w 2 1 (.ref 297) [.int a, .int b] H (.str (leafS a b)) H := by
  refine meets_def (J := []) (lv := 1) (ps := [Str.ofString "code", Str.ofString "dress"]) (Nat.le_refl _) (by k_is) (by k_is) rfl (by walk_at "binds2") (by decide) (by rfl) id (fun _ => rfl) (Nat.le_refl _) ?_
  intro c hw hn hR hok hxs
  have hn1 : 1 ≤ c.n := Nat.le_of_eq hn.symm
  rw [List.append_nil]
  subst hw
  have h1 : 0 ≤ b.fmod 2 ∧ b.fmod 2 < 2 := by rw [Int.fmod_eq_emod_of_nonneg _ (by lia)]; lia
  unfold leafS
  rw [if_pos (by lia)]
  walk_at "ts"

theorem leaf_meets2 {w : World} {a b : Int} (h : 3 ≤ a ∧ a < 5) : Meets w 2 1 (.ref 297) [.int a, .int b] H (.str (leafS a b)) H := by
  refine meets_def (J := []) (lv := 1) (ps := [Str.ofString "code", Str.ofString "dress"]) (Nat.le_refl _) (by k_is) (by k_is) rfl (by walk_at "binds2") (by decide) (by rfl) id (fun _ => rfl) (Nat.le_refl _) ?_
  intro c hw hn hR hok hxs
  have hn1 : 1 ≤ c.n := Nat.le_of_eq hn.symm
  rw [List.append_nil]
  subst hw
  have h1 : 0 ≤ b.fmod 3 ∧ b.fmod 3 < 3 := by rw [Int.fmod_eq_emod_of_nonneg _ (by lia)]; lia
  have h2 : (Str.ofString (toString (7 * a))).length ≤ 10 := len_num (by lia) (by lia)
  have e1 : (Str.ofString "229)(").length = 5 := by decide
  have e2 : (Str.ofString ")()").length = 3 := by decide
  unfold leafS
  rw [if_neg (by lia)]
  walk_at "ts"
noncomputable def esc (s : Str) : Str := Txt.replace s (lit "\"") (lit "\"\"")
noncomputable def pairS (l r : Str) : Str := lit "257 \"" ++ esc l ++ lit "\" \"" ++ esc r ++ lit "\""
theorem pair_meets {w : World} {l r : Str} (hl : l.length ≤ 1000) (hr : r.length ≤ 1000) (el : (esc l).length ≤ 3000) (er : (esc r).length ≤ 3000) : Meets w 2 1 (.ref 304) [.str l, .str r] H (.str (pairS l r)) H := by
  refine meets_def (J := []) (lv := 1) (ps := [Str.ofString "left", Str.ofString "right"]) (Nat.le_refl _) (by k_is) (by k_is) rfl (by walk_at "binds2") (by decide) (by rfl) id (fun _ => rfl) (Nat.le_refl _) ?_
  intro c hw hn hR hok hxs
  have hn1 : 1 ≤ c.n := Nat.le_of_eq hn.symm
  rw [List.append_nil]
  subst hw
  unfold esc at el er
  have e0 : (lit "\"\"").length = 2 := by decide
  have e1 : (lit "257 \"").length = 5 := by decide
  have e2 : (lit "\" \"").length = 3 := by decide
  have e3 : (lit "\"").length = 1 := by decide
  unfold pairS esc
  dsimp only [lit] at *
  walk_at "ts"
end
section
noncomputable def has257 (x : Str) : Bool := Txt.slice x none (some 3) == lit "257"
noncomputable def hasQ (x : Str) : Bool := Txt.slice x (some 3) (some 5) == lit " \""
theorem parse257_X {w : World} {x : Str} (hx : x.length ≤ 100000) (h : has257 x = false) : MeetsX w 2 1 (.ref 153) [.str x] H 125 := by
  refine def_raises (lv := 1) (ps := [Str.ofString "resp"]) (Nat.le_refl _) (by k_is) (by k_is) rfl (by walk_at "binds1") (by decide) (by rfl) ?_
  intro c hw hn hR hok hxs
  have hn1 : 1 ≤ c.n := Nat.le_of_eq hn.symm
  subst hw
  unfold has257 at h
  have h' : (Txt.slice x none (some 3) != lit "257") = true := by rw [bne, h]; rfl
  dsimp only [lit] at *
  have hx2 : x.length ≤ 16777216 := by lia
  walk_at "txs"
theorem parse257_0 {w : World} {x : Str} (hx : x.length ≤ 100000) (h : has257 x = true) (h2 : hasQ x = false) : Meets w 2 1 (.ref 153) [.str x] H (.str (lit "")) H := by
  refine meets_def (J := []) (lv := 1) (ps := [Str.ofString "resp"]) (Nat.le_refl _) (by k_is) (by k_is) rfl (by walk_at "binds1") (by decide) (by rfl) id (fun _ => rfl) (Nat.le_refl _) ?_
  intro c hw hn hR hok hxs
  have hn1 : 1 ≤ c.n := Nat.le_of_eq hn.symm
  rw [List.append_nil]
  subst hw
  unfold has257 at h
  unfold hasQ at h2
  have h' : (Txt.slice x none (some 3) != lit "257") = false := by rw [bne, h]; rfl
  have h2' : (Txt.slice x (some 3) (some 5) != lit " \"") = true := by rw [bne, h2]; rfl
  dsimp only [lit] at *
  have hx2 : x.length ≤ 16777216 := by lia
  walk_at "ts"
theorem parse257_1 {w : World} {x : Str} (hx : x.length ≤ 100000) (h : has257 x = true) (h2 : hasQ x = true) : Meets w 2 1 (.ref 153) [.str x] H (.str (strL (unq (x.cps.toList.drop 5)))) H := by
  refine meets_def (J := []) (lv := 1) (ps := [Str.ofString "resp"]) (Nat.le_refl _) (by k_is) (by k_is) rfl (by walk_at "binds1") (by decide) (by rfl) id (fun _ => rfl) (Nat.le_refl _) ?_
  intro c hw hn hR hok hxs
  have hn1 : 1 ≤ c.n := Nat.le_of_eq hn.symm
  rw [List.append_nil]
  subst hw
  unfold has257 at h
  unfold hasQ at h2
  have h' : (Txt.slice x none (some 3) != lit "257") = false := by rw [bne, h]; rfl
  have h2' : (Txt.slice x (some 3) (some 5) != lit " \"") = false := by rw [bne, h2]; rfl
  dsimp only [lit] at *
  have hx2 : x.length ≤ 16777216 := by lia
  walk_at "nx"
  walk_at "nx"
  walk_at "nx"
  walk_at "nx"
  walk_at "nx"
  have hxl : x.cps.toList.length = x.length := by simp [Str.length]
  refine TS_whileI (fun n vs H' => H' = H ∧ ∃ (i : Nat) (d : List Nat) (j : Int), j = (i : Int) ∧ n = (x.cps.toList.drop i).length ∧ d.length ≤ i ∧ d ++ unq (x.cps.toList.drop i) = unq (x.cps.toList.drop 5) ∧ vs = [(Str.ofString "resp", .str x), (Str.ofString "dirname", .str (strL d)), (Str.ofString "i", .int j), (Str.ofString "n", .int x.length)])
    (fun vs H' => H' = H ∧ vs.lookup (Str.ofString "dirname") = some (.str (strL (unq (x.cps.toList.drop 5))))) _ ⟨rfl, 5, [], 5, rfl, rfl, by decide, rfl, rfl⟩ ?_ ?_
  · (intro n vs H' q18_; (refine e02 q18_ fun q41_ q43_ => ?_; try clear q18_; subst q41_; obtain ⟨i, d, j, hj, hn', hd, he, rfl⟩ := q43_))
    cases hr : x.cps.toList.drop i with
    | nil =>
      refine .stop (TB_eq (by walk_at "tb") ?_) ⟨rfl, ?_⟩
      · have : x.cps.toList.length ≤ i := List.drop_eq_nil_iff.mp hr
        simp only [decide_eq_false_iff_not]; lia
      · rw [hr] at he; simp [unq] at he; rw [← he]; rfl
    | cons a r =>
      (refine e02 (drop_cons hr) fun ha hr1 => ?_)
      have hi : i < x.cps.toList.length := by
        (refine Or.elim (Nat.lt_or_ge i x.cps.toList.length) (fun z => ?_) (fun z => ?_))
        · exact z
        · rw [List.getElem?_eq_none z] at ha; exact ns ha
      have hit := item_at ha
      rw [← hj] at hit
      have hb1 : 0 ≤ j ∧ j < (x.length : Int) ∧ x.length ≤ 16777216 := by lia
      have htest : decide (j < (x.length : Int)) = true := decide_eq_true (by lia)
      have key : strL d ++ Txt.item x j = strL (d ++ [a]) := by rw [hit, strL_app]
      have hdl : (strL d).length ≤ 100000 := by rw [strL_len]; lia
      have hil : (Txt.item x j).length = 1 := rfl
      by_cases hq : a = 34
      · subst hq
        have hc1 : (Txt.item x j == Str.ofString "\"") = true := by rw [hit]; decide
        cases r with
        | nil =>
          have hl : i + 1 = x.cps.toList.length := by
            have := congrArg List.length hr
            rw [List.length_drop] at this
            have e : x.cps.toList.length - i = 1 := this
            lia
          have hge : decide ((x.length : Int) ≤ j + 1) = true := decide_eq_true (by lia)
          refine .brk (TB_eq (by walk_at "tb") htest) (TS_weak (vars' := [(Str.ofString "resp", .str x), (Str.ofString "dirname", .str (strL d)), (Str.ofString "i", .int (j + 1)), (Str.ofString "n", .int x.length)]) (by walk_at "ts") (fun y v hl => lookup_pre hl)) ⟨rfl, ?_⟩
          rw [hr] at he; simp [unq] at he; rw [← he]; rfl
        | cons b r2 =>
          (refine e02 (drop_cons hr1) fun hb hr2 => ?_)
          have hi2 : i + 1 < x.cps.toList.length := by
            (refine Or.elim (Nat.lt_or_ge (i + 1) x.cps.toList.length) (fun z => ?_) (fun z => ?_))
            · exact z
            · rw [List.getElem?_eq_none z] at hb; exact ns hb
          have hit2 := item_at hb
          have ej : j + 1 = ((i + 1 : Nat) : Int) := by lia
          rw [← ej] at hit2
          have hb2 : 0 ≤ j + 1 ∧ j + 1 < (x.length : Int) ∧ x.length ≤ 16777216 := by lia
          have hge : decide ((x.length : Int) ≤ j + 1) = false := decide_eq_false (by lia)
          by_cases hq2 : b = 34
          · subst hq2
            have hc2 : (Txt.item x (j + 1) != Str.ofString "\"") = false := by rw [hit2]; decide
            refine .go (fl := .next) (vars1 := [(Str.ofString "resp", .str x), (Str.ofString "dirname", .str (strL (d ++ [34]))), (Str.ofString "i", .int (j + 1 + 1)), (Str.ofString "n", .int x.length)]) (m := r2.length) (TB_eq (by walk_at "tb") htest) (TS_weak (by walk_at "ts") (fun y v hl => ?_)) rfl ?_ ?_
            · rw [← key] at hl; exact lookup_pre hl
            · rw [hn', hr]; simp; lia
            · refine ⟨rfl, i + 2, d ++ [34], j + 1 + 1, by lia, by rw [hr2], by simp; lia, ?_, rfl⟩
              rw [hr2, ← he, hr, List.append_assoc]; simp [unq]
          · have hc2 : (Txt.item x (j + 1) != Str.ofString "\"") = true := by
              rw [hit2]
              have : ¬ (strL [b] = Str.ofString "\"") := fun q => hq2 (by
                have e := congrArg (fun s : Str => s.cps.toList) q
                have e2 : (Str.ofString "\"").cps.toList = [34] := by decide
                simp only [e2] at e
                simpa using e)
              simpa [bne] using this
            refine .brk (TB_eq (by walk_at "tb") htest) (TS_weak (vars' := [(Str.ofString "resp", .str x), (Str.ofString "dirname", .str (strL d)), (Str.ofString "i", .int (j + 1)), (Str.ofString "n", .int x.length)]) (by walk_at "ts") (fun y v hl => lookup_pre hl)) ⟨rfl, ?_⟩
            rw [hr] at he; simp [unq, hq2] at he; rw [← he]; rfl
      · have hc1 : (Txt.item x j == Str.ofString "\"") = false := by
          rw [hit]
          have : ¬ (strL [a] = Str.ofString "\"") := fun q => hq (by
            have e := congrArg (fun s : Str => s.cps.toList) q
            have e2 : (Str.ofString "\"").cps.toList = [34] := by decide
            simp only [e2] at e
            simpa using e)
          simpa using this
        refine .go (fl := .next) (vars1 := [(Str.ofString "resp", .str x), (Str.ofString "dirname", .str (strL (d ++ [a]))), (Str.ofString "i", .int (j + 1)), (Str.ofString "n", .int x.length)]) (m := r.length) (TB_eq (by walk_at "tb") htest) (TS_weak (by walk_at "ts") (fun y v hl => ?_)) rfl ?_ ?_
        · rw [← key] at hl; exact lookup_pre hl
        · rw [hn', hr]; simp
        · refine ⟨rfl, i + 1, d ++ [a], j + 1, by lia, by rw [hr1], by simp; lia, ?_, rfl⟩
          rw [hr1, ← he, hr, unq_plain hq, List.append_assoc]; rfl
  · (intro vs H' q19_; (refine e02 q19_ fun q75_ hv => ?_; try clear q19_; subst q75_))
    refine TS_ret (TS1_return (TE_var hv (by decide)))
end
section
theorem p229_X0 {w : World} {x : Str} {v : V} (hx : x.length ≤ 100000) (h : (Txt.slice x none (some 3) != lit "229") = true) : MeetsX w 2 1 (.ref 146) [.str x, v] H 125 := by
  refine def_raises (lv := 1) (ps := [Str.ofString "resp", Str.ofString "peer"]) (Nat.le_refl _) (by k_is) (by k_is) rfl (by walk_at "binds2") (by decide) (by rfl) ?_
  intro c hw hn hR hok hxs
  have hn1 : 1 ≤ c.n := Nat.le_of_eq hn.symm
  subst hw
  dsimp only [lit] at *
  have hx2 : x.length ≤ 16777216 := by lia
  walk_at "txs"
theorem p229_X1 {w : World} {x : Str} {v : V} (hx : x.length ≤ 100000) (h : (Txt.slice x none (some 3) != lit "229") = false) (h1 : decide (Txt.find x (lit "(") < 0) = true) : MeetsX w 2 1 (.ref 146) [.str x, v] H 137 := by
  refine def_raises (lv := 1) (ps := [Str.ofString "resp", Str.ofString "peer"]) (Nat.le_refl _) (by k_is) (by k_is) rfl (by walk_at "binds2") (by decide) (by rfl) ?_
  intro c hw hn hR hok hxs
  have hn1 : 1 ≤ c.n := Nat.le_of_eq hn.symm
  subst hw
  dsimp only [lit] at *
  have hx2 : x.length ≤ 16777216 := by lia
  walk_at "txs"
theorem p229_X2 {w : World} {x : Str} {v : V} (hx : x.length ≤ 100000) (h : (Txt.slice x none (some 3) != lit "229") = false) (h1 : decide (Txt.find x (lit "(") < 0) = false) (h2 : decide (Txt.find3 x (lit ")") (Txt.find x (lit "(") + 1) < 0) = true) : MeetsX w 2 1 (.ref 146) [.str x, v] H 137 := by
  refine def_raises (lv := 1) (ps := [Str.ofString "resp", Str.ofString "peer"]) (Nat.le_refl _) (by k_is) (by k_is) rfl (by walk_at "binds2") (by decide) (by rfl) ?_
  intro c hw hn hR hok hxs
  have hn1 : 1 ≤ c.n := Nat.le_of_eq hn.symm
  subst hw
  dsimp only [lit] at *
  have hx2 : x.length ≤ 16777216 := by lia
  walk_at "txs"
theorem p229_X3 {w : World} {x : Str} {v : V} {L R : Int} (hx : x.length ≤ 100000) (h : (Txt.slice x none (some 3) != lit "229") = false) (hL : Txt.find x (lit "(") = L) (h1 : decide (L < 0) = false) (hR : Txt.find3 x (lit ")") (L + 1) = R) (h2 : decide (R < 0) = false)
    (h3 : 0 ≤ L + 1 ∧ L + 1 < (x.length : Int) ∧ x.length ≤ 16777216) (h4 : 0 ≤ R - 1 ∧ R - 1 < (x.length : Int) ∧ x.length ≤ 16777216) (h5 : (Txt.item x (L + 1) != Txt.item x (R - 1)) = true) : MeetsX w 2 1 (.ref 146) [.str x, v] H 137 := by
  subst hL hR
  refine def_raises (lv := 1) (ps := [Str.ofString "resp", Str.ofString "peer"]) (Nat.le_refl _) (by k_is) (by k_is) rfl (by walk_at "binds2") (by decide) (by rfl) ?_
  intro c hw hn hR hok hxs
  have hn1 : 1 ≤ c.n := Nat.le_of_eq hn.symm
  subst hw
  dsimp only [lit] at *
  have hx2 : x.length ≤ 16777216 := by lia
  walk_at "txs"
theorem p229_X4 {w : World} {x : Str} {v : V} {L R : Int} {l : List Str} (hx : x.length ≤ 100000) (h : (Txt.slice x none (some 3) != lit "229") = false) (hL : Txt.find x (lit "(") = L) (h1 : decide (L < 0) = false) (hR : Txt.find3 x (lit ")") (L + 1) = R) (h2 : decide (R < 0) = false)
    (h3 : 0 ≤ L + 1 ∧ L + 1 < (x.length : Int) ∧ x.length ≤ 16777216) (h4 : 0 ≤ R - 1 ∧ R - 1 < (x.length : Int) ∧ x.length ≤ 16777216) (h5 : (Txt.item x (L + 1) != Txt.item x (R - 1)) = false)
    (h6 : Txt.split (Txt.slice x (some (L + 1)) (some R)) (Txt.item x (L + 1)) = l) (h7 : ((l.length : Int) != 5) = true) (h8 : l.length ≤ 16777216) : MeetsX w 2 1 (.ref 146) [.str x, v] H 137 := by
  subst hL hR
  have hsl : (Txt.slice x (some (Txt.find x (lit "(") + 1)) (some (Txt.find3 x (lit ")") (Txt.find x (lit "(") + 1)))).length + 2 ≤ 16777216 := by have := Txt.slice_le x (some (Txt.find x (lit "(") + 1)) (some (Txt.find3 x (lit ")") (Txt.find x (lit "(") + 1))); lia
  have hil : ((Txt.item x (Txt.find x (lit "(") + 1)).length == 0) = false := rfl
  refine def_raises (lv := 1) (ps := [Str.ofString "resp", Str.ofString "peer"]) (Nat.le_refl _) (by k_is) (by k_is) rfl (by walk_at "binds2") (by decide) (by rfl) ?_
  intro c hw hn hR hok hxs
  have hn1 : 1 ≤ c.n := Nat.le_of_eq hn.symm
  subst hw
  dsimp only [lit] at *
  have hx2 : x.length ≤ 16777216 := by lia
  walk_at "txs"
theorem p229_ok {w : World} {x : Str} {v : V} {L R n : Int} {q0 q1 q2 q3 q4 : Str} (hx : x.length ≤ 100000) (h : (Txt.slice x none (some 3) != lit "229") = false) (hL : Txt.find x (lit "(") = L) (h1 : decide (L < 0) = false) (hR : Txt.find3 x (lit ")") (L + 1) = R) (h2 : decide (R < 0) = false)
    (h3 : 0 ≤ L + 1 ∧ L + 1 < (x.length : Int) ∧ x.length ≤ 16777216) (h4 : 0 ≤ R - 1 ∧ R - 1 < (x.length : Int) ∧ x.length ≤ 16777216) (h5 : (Txt.item x (L + 1) != Txt.item x (R - 1)) = false)
    (h6 : Txt.split (Txt.slice x (some (L + 1)) (some R)) (Txt.item x (L + 1)) = [q0, q1, q2, q3, q4]) (h9 : PySem.intText? q3 = some n) (hq : q3.length ≤ 640) : Meets w 2 1 (.ref 146) [.str x, .tup [.str (lit "h"), .int 2]] H (.tup [.str (lit "h"), .int n]) H := by
  subst hL hR
  have hsl : (Txt.slice x (some (Txt.find x (lit "(") + 1)) (some (Txt.find3 x (lit ")") (Txt.find x (lit "(") + 1)))).length + 2 ≤ 16777216 := by have := Txt.slice_le x (some (Txt.find x (lit "(") + 1)) (some (Txt.find3 x (lit ")") (Txt.find x (lit "(") + 1))); lia
  have hil : ((Txt.item x (Txt.find x (lit "(") + 1)).length == 0) = false := rfl
  refine meets_def (J := []) (lv := 1) (ps := [Str.ofString "resp", Str.ofString "peer"]) (Nat.le_refl _) (by k_is) (by k_is) rfl (by walk_at "binds2") (by decide) (by rfl) id (fun _ => rfl) (Nat.le_refl _) ?_
  intro c hw hn hR hok hxs
  have hn1 : 1 ≤ c.n := Nat.le_of_eq hn.symm
  rw [List.append_nil]
  subst hw
  dsimp only [lit] at *
  have hx2 : x.length ≤ 16777216 := by lia
  walk_at "ts"
end
section
theorem booked_of {K : Frag} {h : Heap} {o : Obj} {es : Array DictEntry} {ep : Nat} (X : K.In h) (e : K.lookup cStatics = some o) (hd : o.data = .dict es ep) (hs : es.toList.all (fun e => match e.key with | .str _ _ => true | _ => false) = true) (hn : (nsFind es sharingNotToldKey).isNone = true) : NoneBooked h :=
  have sk : StrKeys es := fun e he => by
    have := List.all_eq_true.mp hs e (by simpa using he)
    cases hk : e.key with
    | str n t => exact ⟨n, t, rfl⟩
    | _ => rw [hk] at this; exact ft this
  ⟨fun n => nsFind es n, ⟨o, es, ep, X _ _ e, hd, sk, fun _ => rfl⟩, by
    show nsFind es sharingNotToldKey = none
    simpa using hn⟩
theorem noneBooked {w : World} {h : Heap} (X : (top0.heap_1 w.params).In h) : NoneBooked h := by
  refine' booked_of X ?a ?b ?c ?d
  case a => k_is
  case b => with_unfolding_all rfl
  case c => with_unfolding_all rfl
  case d => with_unfolding_all rfl
end
section
local macro_rules | `(tactic| walk_at "pc") => `(tactic| walk_at "!=z25")
local macro_rules | `(tactic| walk_at "pc") => `(tactic| walk_at "!=z26")
theorem name_1 {w : World} {x : Str} (hx : x.length ≤ 100000) (h : has257 x = true) (h2 : hasQ x = true) : Meets w 3 1 (.ref 332) [.str x] H (.str (strL (unq (x.cps.toList.drop 5)))) H := by
  refine meets_def (J := []) (lv := 2) (ps := [Str.ofString "term"]) (Nat.le_refl _) (by k_is) (by k_is) rfl (by walk_at "binds1") (by decide) (by rfl) id (fun _ => rfl) (Nat.le_refl _) ?_
  intro c hw hn hR hok hxs
  have hn1 : 1 ≤ c.n := Nat.le_of_eq hn.symm
  rw [List.append_nil]
  subst hw
  refine TS_ret (TS1_try_ok ?_)
  walk_at "ts"
theorem name_0 {w : World} {x : Str} (hx : x.length ≤ 100000) (h : has257 x = true) (h2 : hasQ x = false) : Meets w 3 1 (.ref 332) [.str x] H (.str (lit "")) H := by
  refine meets_def (J := []) (lv := 2) (ps := [Str.ofString "term"]) (Nat.le_refl _) (by k_is) (by k_is) rfl (by walk_at "binds1") (by decide) (by rfl) id (fun _ => rfl) (Nat.le_refl _) ?_
  intro c hw hn hR hok hxs
  have hn1 : 1 ≤ c.n := Nat.le_of_eq hn.symm
  rw [List.append_nil]
  subst hw
  refine TS_ret (TS1_try_ok ?_)
  walk_at "ts"
theorem name_X {w : World} {x : Str} (hx : x.length ≤ 100000) (h : has257 x = false) : Meets w 3 1 (.ref 332) [.str x] H (.str (lit "error_reply")) H := by
  refine meets_def (J := []) (lv := 2) (ps := [Str.ofString "term"]) (Nat.le_refl _) (by k_is) (by k_is) rfl (by walk_at "binds1") (by decide) (by rfl) id (fun _ => rfl) (Nat.le_refl _) ?_
  intro c hw hn hR hok hxs
  have hn1 : 1 ≤ c.n := Nat.le_of_eq hn.symm
  rw [List.append_nil]
  subst hw
  refine TS_ret (TS1_try_X1 (C := 125) (CX_call (parse257_X hx h) hn1 hR rfl (by walk_at "te") (by walk_at "kept") (by walk_at "tes") rfl rfl) rfl rfl rfl rfl (by kts_test))
end
section
theorem concat_m {w : World} {a b : Str} (h : a.length + b.length ≤ 1000000) : Meets w 2 1 (.ref 59) [.str a, .str b] H (.str (a ++ b)) H := by
  refine meets_def (J := []) (lv := 1) (ps := [Str.ofString "a", Str.ofString "b"]) (Nat.le_refl _) (by k_is) (by k_is) rfl (by walk_at "binds2") (by decide) (by rfl) id (fun _ => rfl) (Nat.le_refl _) ?_
  intro c hw hn hR hok hxs
  have hn1 : 1 ≤ c.n := Nat.le_of_eq hn.symm
  rw [List.append_nil]
  subst hw
  walk_at "ts"
noncomputable def cnt (l : List Nat) : Int := (l.countP (· == 34) : Nat)
theorem cnt_cons (a : Nat) (l : List Nat) : cnt (a :: l) = (if a = 34 then 1 else 0) + cnt l := by
  unfold cnt; rw [List.countP_cons]
  by_cases h : a = 34
  · subst h; simp; lia
  · simp [h]
theorem sing_q {a : Nat} : (strL [a] == Str.ofString "\"") = (a == 34) := by
  have e2 : Str.ofString "\"" = strL [34] := by decide
  rw [e2]
  by_cases h : a = 34
  · subst h; simp
  · have : strL [a] ≠ strL [34] := fun q => h (by injection q with q; simpa using q)
    rw [beq_eq_false_iff_ne.mpr this, beq_eq_false_iff_ne.mpr h]
theorem countOf_m {w : World} {a : Str} {u : Nat} (hu : 1 ≤ u) (ha : a.cps.all (· < 128) = true) : Meets w 2 (u + 1) (.ref 73) [.str a, .strP (Str.ofString "\"") (· = u)] H (.int (cnt a.cps.toList)) H := by
  refine meets_def (J := []) (lv := 1) (ps := [Str.ofString "a", Str.ofString "b"]) (Nat.le_add_left 1 u) (by k_is) (by k_is) rfl (by walk_at "binds2") (by decide) (by rfl) id (fun _ => rfl) (Nat.le_refl _) ?_
  intro c hw hn hR hok hxs
  rw [List.append_nil]
  subst hw
  have nb : ∀ h, (top0.heap_1 c.w.params).In h → NoneBooked h := fun h X => noneBooked X
  have ht : ∀ t v : Nat, c.n ≤ t → v = u → t ≠ 0 ∧ v ≠ 0 ∧ t ≠ v := fun t v h1 h2 => by lia
  walk_at "nx"
  refine TS_for (KH := fun _ => True) (fun xs vs H' => H' = H ∧ ∃ (l : List Nat) (k : Int), xs = (l.map fun k => V.strP ⟨#[k]⟩ fun t => c.n ≤ t) ∧ k + cnt l = cnt a.cps.toList ∧ vs = [(Str.ofString "a", .str a), (Str.ofString "b", .strP (Str.ofString "\"") (· = u)), (Str.ofString "count", .int k)])
    (fun vs H' => H' = H ∧ vs.lookup (Str.ofString "count") = some (.int (cnt a.cps.toList))) (ItR_of (by walk_at "te") (walk_str ha) trivial) ⟨rfl, _, 0, rfl, by lia, rfl⟩ (fun _ => rfl) ?_ ?_ ?_
  · (intro x xs vs H' q20_; (refine e02 q20_ fun q44_ q46_ => ?_; try clear q20_; subst q44_; obtain ⟨l, k, hl, hk, rfl⟩ := q46_))
    refine ⟨trivial, .inl ?_⟩
    cases l with
    | nil => exact cn hl
    | cons z l =>
      rw [List.map_cons] at hl
      injection hl with h1 h2
      subst h1 h2
      rw [cnt_cons] at hk
      by_cases hz : z = 34
      · have hq : ((⟨#[z]⟩ : Str) == Str.ofString "\"") = true := by have := sing_q (a := z); rw [show strL [z] = (⟨#[z]⟩ : Str) from rfl] at this; rw [this, hz]; rfl
        rw [if_pos hz] at hk
        refine ⟨_, .next, _, [(Str.ofString "a", .str a), (Str.ofString "b", .strP (Str.ofString "\"") (· = u)), (Str.ofString "count", .int (k + 1))], TAs_name (TStore.lo (by with_unfolding_all rfl)), TS_weak (by walk_at "ts") (fun y v hl => ?_), rfl, rfl, l, k + 1, rfl, by lia, rfl⟩
        exact lookup_pre hl
      · have hq : ((⟨#[z]⟩ : Str) == Str.ofString "\"") = false := by have := sing_q (a := z); rw [show strL [z] = (⟨#[z]⟩ : Str) from rfl] at this; rw [this]; simpa using hz
        rw [if_neg hz] at hk
        refine ⟨_, .next, _, [(Str.ofString "a", .str a), (Str.ofString "b", .strP (Str.ofString "\"") (· = u)), (Str.ofString "count", .int k)], TAs_name (TStore.lo (by with_unfolding_all rfl)), TS_weak (by walk_at "ts") (fun y v hl => ?_), rfl, rfl, l, k, rfl, by lia, rfl⟩
        exact lookup_pre hl
  · (intro vs H' q21_; (refine e02 q21_ fun q47_ q49_ => ?_; try clear q21_; subst q47_; obtain ⟨l, k, hl, hk, rfl⟩ := q49_))
    cases l with
    | cons z l => exact nc hl
    | nil =>
      refine ⟨trivial, .inl ⟨_, _, TS_nil, rfl, ?_⟩⟩
      rw [← hk]; unfold cnt; simp; rfl
  · (intro vs H' q22_; (refine e02 q22_ fun q76_ hv => ?_; try clear q22_; subst q76_))
    refine TS_ret (TS1_return (TE_var hv (by decide)))
end
section
noncomputable def peerV : V := .tup [.str (lit "h"), .int 2]
theorem port_ok {w : World} {x : Str} {r : V} (h : ∀ (w : World) (H : List MO), Meets w 2 1 (.ref 146) [.str x, peerV] H r H) (hr : ∀ n, V.lt n r = true) : Meets w 3 1 (.ref 325) [.str x] H r H := by
  refine meets_def (J := []) (lv := 2) (ps := [Str.ofString "term"]) (Nat.le_refl _) (by k_is) (by k_is) rfl (by walk_at "binds1") (by decide) (by rfl) id (fun _ => hr _) (Nat.le_refl _) ?_
  intro c hw hn hR hok hxs
  have hn1 : 1 ≤ c.n := Nat.le_of_eq hn.symm
  rw [List.append_nil]
  subst hw
  refine TS_ret (TS1_try_ok (TS_ret (TS1_return (TE_call (f := .ref 146) (xs := [.str x, peerV]) (H1 := H) ?a ?b ?c ?d ?he ?hp))))
  case he => with_unfolding_all rfl
  case hp => with_unfolding_all rfl
  case a => walk_at "te"
  case b => walk_at "kept"
  case c => unfold peerV; walk_at "tes"
  case d => exact PC_m (h _ _) hn1 hR (by rfl)
theorem port_reply {w : World} {x : Str} (h : ∀ (w : World) (H : List MO), MeetsX w 2 1 (.ref 146) [.str x, peerV] H 125) : Meets w 3 1 (.ref 325) [.str x] H (.str (lit "error_reply")) H := by
  refine meets_def (J := []) (lv := 2) (ps := [Str.ofString "term"]) (Nat.le_refl _) (by k_is) (by k_is) rfl (by walk_at "binds1") (by decide) (by rfl) id (fun _ => rfl) (Nat.le_refl _) ?_
  intro c hw hn hR hok hxs
  have hn1 : 1 ≤ c.n := Nat.le_of_eq hn.symm
  rw [List.append_nil]
  subst hw
  refine TS_ret (TS1_try_X1 (C := 125) (CX_call (h _ _) hn1 hR rfl (by walk_at "te") (by walk_at "kept") (by unfold peerV; walk_at "tes") rfl rfl) rfl rfl rfl rfl (by kts_test))
theorem port_proto {w : World} {x : Str} (h : ∀ (w : World) (H : List MO), MeetsX w 2 1 (.ref 146) [.str x, peerV] H 137) : Meets w 3 1 (.ref 325) [.str x] H (.str (lit "error_proto")) H := by
  refine meets_def (J := []) (lv := 2) (ps := [Str.ofString "term"]) (Nat.le_refl _) (by k_is) (by k_is) rfl (by walk_at "binds1") (by decide) (by rfl) id (fun _ => rfl) (Nat.le_refl _) ?_
  intro c hw hn hR hok hxs
  have hn1 : 1 ≤ c.n := Nat.le_of_eq hn.symm
  rw [List.append_nil]
  subst hw
  refine TS_ret (TS1_try_X2 (C := 137) (CX_call (h _ _) hn1 hR rfl (by walk_at "te") (by walk_at "kept") (by unfold peerV; walk_at "tes") rfl rfl) rfl rfl rfl rfl (by kts_test) (by kts_test))
end
section
noncomputable def splitL (c : Nat) : List Nat → List (List Nat)
  | [] => [[]]
  | a :: r => if a = c then [] :: splitL c r else match splitL c r with
    | [] => [[a]]
    | h :: t => (a :: h) :: t
theorem splitL_ne (c : Nat) : ∀ l, splitL c l ≠ []
  | [] => by simp [splitL]
  | a :: r => by
    unfold splitL
    split
    · simp
    · split <;> simp
theorem splitL_free (c : Nat) : ∀ l, ∀ p ∈ splitL c l, c ∉ p
  | [], p, hp => by simp [splitL] at hp; subst hp; simp
  | a :: r, p, hp => by
    unfold splitL at hp
    split at hp
    · (refine Or.elim (List.mem_cons.mp hp) (fun o279_ => ?_) (fun hp => ?_); subst o279_)
      · simp
      · exact splitL_free c r p hp
    · rename_i hne
      split at hp
      · rename_i q; exact absurd q (splitL_ne c r)
      · rename_i h t q
        (refine Or.elim (List.mem_cons.mp hp) (fun o280_ => ?_) (fun hp => ?_); subst o280_)
        · intro hm
          (refine Or.elim (List.mem_cons.mp hm) (fun z => ?_) (fun z => ?_))
          · exact hne z.symm
          · exact splitL_free c r h (by rw [q]; exact .head _) z
        · exact splitL_free c r p (by rw [q]; exact .tail _ hp)
theorem joinL_split (c : Nat) : ∀ l, joinL c (splitL c l) = l
  | [] => rfl
  | a :: r => by
    have ih := joinL_split c r
    unfold splitL
    split
    · rename_i h
      rw [joinL_cons2 c [] (splitL_ne c r), ih, h]; rfl
    · split
      · rename_i q; exact absurd q (splitL_ne c r)
      · rename_i h t q
        rw [q] at ih
        cases t with
        | nil => show a :: h = _; rw [← ih]; rfl
        | cons y t => rw [joinL_cons2 c h (by simp)] at ih; rw [joinL_cons2 c (a :: h) (by simp), ← ih]; rfl
theorem join_esc : ∀ l, (Str.join (strL [34, 34]) ((splitL 34 l).map strL)) = strL (escL l)
  | [] => rfl
  | a :: r => by
    have ih := join_esc r
    unfold splitL
    rw [escL_cons]
    split
    · rename_i h
      cases hs : splitL 34 r with
      | nil => exact absurd hs (splitL_ne 34 r)
      | cons y t =>
        rw [hs] at ih
        show (strL [] ++ strL [34, 34] ++ Str.join (strL [34, 34]) ((y :: t).map strL) : Str) = _
        rw [ih, strL_app, strL_app]; rfl
    · rename_i h
      cases hs : splitL 34 r with
      | nil => exact absurd hs (splitL_ne 34 r)
      | cons y t =>
        rw [hs] at ih
        show Str.join (strL [34, 34]) (((a :: y) :: t).map strL) = _
        cases t with
        | nil =>
          have e : y = escL r := strL_inj ih
          show strL (a :: y) = _
          rw [e]; rfl
        | cons z t =>
          have e : (strL y ++ strL [34, 34] ++ Str.join (strL [34, 34]) ((z :: t).map strL) : Str) = strL (escL r) := ih
          show (strL (a :: y) ++ strL [34, 34] ++ Str.join (strL [34, 34]) ((z :: t).map strL) : Str) = _
          have e2 : strL (a :: y) = strL [a] ++ strL y := by rw [strL_app]; rfl
          rw [e2]
          have assoc : ∀ (x y z : Str), x ++ y ++ z = x ++ (y ++ z) := fun x y z => by
            have := strL_toList (x ++ y ++ z)
            rw [← strL_toList x, ← strL_toList y, ← strL_toList z, strL_app, strL_app, strL_app, strL_app, List.append_assoc]
          rw [assoc, assoc, ← assoc (strL y), e, strL_app]
theorem esc_strL (l : List Nat) : esc (strL l) = strL (escL l) := by
  unfold esc
  have e1 : lit "\"" = (⟨#[34]⟩ : Str) := by decide
  have e2 : lit "\"\"" = strL [34, 34] := by decide
  rw [e1, e2, StrLaws.replace_one, split_is (splitL_ne 34 l) (splitL_free 34 l) (joinL_split 34 l)]
  exact join_esc l

noncomputable def pairL (l r : List Nat) : List Nat := [50, 53, 55, 32, 34] ++ (escL l ++ ([34, 32, 34] ++ (escL r ++ [34])))
noncomputable def tailL (r : List Nat) : List Nat := [50, 53, 55, 32, 34] ++ (escL r ++ [34])
theorem pairS_strL (l r : List Nat) : pairS (strL l) (strL r) = strL (pairL l r) := by
  unfold pairS pairL
  have e1 : lit "257 \"" = strL [50, 53, 55, 32, 34] := by decide
  have e2 : lit "\" \"" = strL [34, 32, 34] := by decide
  have e3 : lit "\"" = strL [34] := by decide
  rw [e1, e2, e3, esc_strL, esc_strL, strL_app, strL_app, strL_app, strL_app]
  simp only [List.append_assoc]
theorem head_257 {l : List Nat} (h : ∃ r, l = [50, 53, 55, 32, 34] ++ r) : has257 (strL l) = true ∧ hasQ (strL l) = true := by
  (refine Exists.elim h fun r q77_ => ?_; try clear h; subst q77_)
  unfold has257 hasQ
  have h1 : Txt.slice (strL ([50, 53, 55, 32, 34] ++ r)) none (some 3) = strL [50, 53, 55] := slice_to (n := 3) (by simp)
  have h2 : Txt.slice (strL ([50, 53, 55, 32, 34] ++ r)) (some 3) (some 5) = strL [32, 34] := slice_mid (a := 3) (b := 5) (by lia) (by simp)
  rw [h1, h2]
  exact ⟨by decide, by decide⟩
theorem pair_unq (l r : List Nat) : unq ((strL (pairL l r)).cps.toList.drop 5) = l := by
  rw [len_list]
  show unq (escL l ++ ([34, 32, 34] ++ (escL r ++ [34]))) = l
  exact unq_esc (t := 32 :: 34 :: (escL r ++ [34])) (by simp) l
theorem tail_unq (r : List Nat) : unq ((strL (tailL r)).cps.toList.drop 5) = r := by
  rw [len_list]
  exact unq_esc (t := []) (by simp) r
theorem pair_rest (l r : List Nat) : lit "257" ++ Txt.slice (strL (pairL l r)) (some (6 + ((strL l).length : Int) + cnt (strL l).cps.toList)) none = strL (tailL r) := by
  have e1 : lit "257" = strL [50, 53, 55] := by decide
  have e2 : (6 : Int) + ((strL l).length : Int) + cnt (strL l).cps.toList = ((6 + (escL l).length : Nat) : Int) := by
    rw [len_list, strL_len, escL_len]; unfold cnt; lia
  rw [e1, e2]
  have hl : 6 + (escL l).length ≤ (pairL l r).length := by unfold pairL; simp; lia
  rw [slice_fr hl, strL_app]
  congr 1
  unfold pairL tailL
  have : ([50, 53, 55, 32, 34] ++ (escL l ++ ([34, 32, 34] ++ (escL r ++ [34])))) = ([50, 53, 55, 32, 34] ++ (escL l ++ [34])) ++ ([32, 34] ++ (escL r ++ [34])) := by simp
  rw [this]
  have hn : ([50, 53, 55, 32, 34] ++ (escL l ++ [34])).length = 6 + (escL l).length := by simp; lia
  rw [← hn, List.drop_left]
  rfl
end
section
theorem name_of {w : World} {x : Str} {l : List Nat} (hx : x.length ≤ 100000) (h : has257 x = true ∧ hasQ x = true) (hu : unq (x.cps.toList.drop 5) = l) : Meets w 3 1 (.ref 332) [.str x] H (.str (strL l)) H := by
  subst hu; exact name_1 hx h.1 h.2
theorem read_pair {w : World} {l r : List Nat} (hp : (pairL l r).length ≤ 1000) (ha : (strL l).cps.all (· < 128) = true) (hne : strL l ≠ lit "error_reply") : Meets w 6 1 (.ref 339) [.str (strL (pairL l r))] H (.lst [.str (lit "pair"), .str (strL l), .str (strL r)]) H := by
  refine meets_def (J := []) (lv := 5) (ps := [Str.ofString "term"]) (Nat.le_refl _) (by k_is) (by k_is) rfl (by walk_at "binds1") (by decide) (by rfl) id (fun _ => rfl) (Nat.le_refl _) ?_
  intro c hw hn hR hok hxs
  have hn1 : 1 ≤ c.n := Nat.le_of_eq hn.symm
  rw [List.append_nil]
  subst hw
  have h1 := head_257 (l := pairL l r) ⟨_, rfl⟩
  have hu := pair_unq l r
  have hx : (strL (pairL l r)).length ≤ 100000 := by rw [strL_len]; lia
  have h2 := head_257 (l := tailL r) ⟨_, rfl⟩
  have hu2 := tail_unq r
  have hyr := pair_rest l r
  have hll : l.length ≤ 1000 := by have := escL_len l; unfold pairL at hp; simp at hp; lia
  have hx1 : (strL (pairL l r)).length ≤ 1000 := by rw [strL_len]; lia
  have h2' : has257 (lit "257" ++ Txt.slice (strL (pairL l r)) (some (6 + ((strL l).length : Int) + cnt (strL l).cps.toList)) none) = true ∧ hasQ (lit "257" ++ Txt.slice (strL (pairL l r)) (some (6 + ((strL l).length : Int) + cnt (strL l).cps.toList)) none) = true := by rw [hyr]; exact h2
  have hu2' : unq ((lit "257" ++ Txt.slice (strL (pairL l r)) (some (6 + ((strL l).length : Int) + cnt (strL l).cps.toList)) none).cps.toList.drop 5) = r := by rw [hyr]; exact hu2
  have hsl := Txt.slice_le (strL (pairL l r)) (some (6 + ((strL l).length : Int) + cnt (strL l).cps.toList)) none
  have hl7 : (lit "257").length = 3 := by decide
  have hx2' : (lit "257" ++ Txt.slice (strL (pairL l r)) (some (6 + ((strL l).length : Int) + cnt (strL l).cps.toList)) none).length ≤ 100000 := by rw [Str.length_append]; lia
  have hcc : (lit "257").length + (Txt.slice (strL (pairL l r)) (some (6 + ((strL l).length : Int) + cnt (strL l).cps.toList)) none).length ≤ 1000000 := by lia
  have hne' : (strL l != lit "error_reply") = true := by simpa using hne
  have hm1 : Meets c.w 3 1 (.ref 332) [.str (strL (pairL l r))] H (.str (strL l)) H := name_of hx h1 hu
  have hm2 : Meets c.w 2 1 (.ref 59) [.str (lit "257"), .str (Txt.slice (strL (pairL l r)) (some (6 + ((strL l).length : Int) + cnt (strL l).cps.toList)) none)] H (.str (lit "257" ++ Txt.slice (strL (pairL l r)) (some (6 + ((strL l).length : Int) + cnt (strL l).cps.toList)) none)) H := concat_m hcc
  have hm3 : Meets c.w 3 1 (.ref 332) [.str (lit "257" ++ Txt.slice (strL (pairL l r)) (some (6 + ((strL l).length : Int) + cnt (strL l).cps.toList)) none)] H (.str (strL r)) H := name_of hx2' h2' hu2'
  have hm4 : ∀ u, 1 ≤ u → Meets c.w 2 (u + 1) (.ref 73) [.str (strL l), .strP (lit "\"") (· = u)] H (.int (cnt (strL l).cps.toList)) H := fun u hu => countOf_m hu ha
  have hlen1 : (strL l).length ≤ 16777216 := by rw [strL_len]; lia
  have hlen2 : (strL (pairL l r)).length ≤ 16777216 := by lia
  dsimp only [lit] at *
  walk_at "ts"
theorem read_name {w : World} {x : Str} (hx : x.length ≤ 1000) (h7 : has257 x = false) (hp : ∀ (w : World) (H : List MO), MeetsX w 2 1 (.ref 146) [.str x, peerV] H 125) : Meets w 6 1 (.ref 339) [.str x] H (.lst [.str (lit "name"), .str x]) H := by
  refine meets_def (J := []) (lv := 5) (ps := [Str.ofString "term"]) (Nat.le_refl _) (by k_is) (by k_is) rfl (by walk_at "binds1") (by decide) (by rfl) id (fun _ => rfl) (Nat.le_refl _) ?_
  intro c hw hn hR hok hxs
  have hn1 : 1 ≤ c.n := Nat.le_of_eq hn.symm
  rw [List.append_nil]
  subst hw
  have hx2 : x.length ≤ 100000 := by lia
  have hA : Meets c.w 3 1 (.ref 332) [.str x] H (.str (lit "error_reply")) H := name_X hx2 h7
  have hB : Meets c.w 3 1 (.ref 325) [.str x] H (.str (lit "error_reply")) H := port_reply hp
  dsimp only [lit] at *
  have e1 : (Str.ofString "error_reply" != Str.ofString "error_reply") = false := by decide
  have e2 : (Str.ofString "error_reply" == Str.ofString "error_reply") = true := by decide
  walk_at "ts"
theorem read_port {w : World} {x : Str} {n : Int} (hx : x.length ≤ 1000) (h7 : has257 x = false) (hp : ∀ (w : World) (H : List MO), Meets w 2 1 (.ref 146) [.str x, peerV] H (.tup [.str (lit "h"), .int n]) H) : Meets w 6 1 (.ref 339) [.str x] H (.lst [.str (lit "port"), .tup [.str (lit "h"), .int n]]) H := by
  refine meets_def (J := []) (lv := 5) (ps := [Str.ofString "term"]) (Nat.le_refl _) (by k_is) (by k_is) rfl (by walk_at "binds1") (by decide) (by rfl) id (fun _ => rfl) (Nat.le_refl _) ?_
  intro c hw hn hR hok hxs
  have hn1 : 1 ≤ c.n := Nat.le_of_eq hn.symm
  rw [List.append_nil]
  subst hw
  have hx2 : x.length ≤ 100000 := by lia
  have hA : Meets c.w 3 1 (.ref 332) [.str x] H (.str (lit "error_reply")) H := name_X hx2 h7
  have hB : Meets c.w 3 1 (.ref 325) [.str x] H (.tup [.str (lit "h"), .int n]) H := port_ok hp fun _ => rfl
  dsimp only [lit] at *
  have e1 : (Str.ofString "error_reply" != Str.ofString "error_reply") = false := by decide
  have s1 : PyData.strOk (Str.ofString "h") = true := by decide +kernel
  have s2 : PyData.strOk (Str.ofString "error_reply") = true := by decide +kernel
  walk_at "ts"
end
section
noncomputable def plainS (x : Str) : Prop := x.cps.all plainCh = true ∧ x.length ≤ 100000
noncomputable abbrev mkK : List Value → Args := fun vs => ⟨vs.take 2, [Str.ofString "name"].zip (vs.drop 2)⟩
local macro_rules | `(tactic| walk_at "pc") => `(tactic| walk_at "!PC_typeS|PC_search a:k b:k d:y10 x:as s:as")
local macro_rules | `(tactic| walk_at "mth") => `(tactic| walk_at "!Mth_pat a:k b:r d:r")
local macro_rules | `(tactic| walk_at "po") => `(tactic| walk_at "!PO_isT a:r")
theorem convert_m {w : World} {x : Str} {b : Bool} {i : Nat} (hx : plainS x) : MeetsA w 2 1 (.ref 185) mkK [.obj i, .str x, .bool b] H (.str x) H := by
  refine meets_defC (J := []) (lv := 1) (ps := [Str.ofString "self", Str.ofString "value", Str.ofString "name"]) (ds := []) (dxs := []) (Nat.le_refl _) (by k_is) (by k_is) rfl .nil (by intro s vs hv X; (refine e31 (len3 hv) fun a b d q78_ => ?_; subst q78_); exact BindsTo.of_eq rfl) (by decide) (by rfl) id (fun _ => rfl) (Nat.le_refl _) (by rfl) ?_
  intro c hw hn hR hok hxs
  have hn1 : 1 ≤ c.n := Nat.le_of_eq hn.symm
  rw [List.append_nil, List.append_nil]
  subst hw
  have h1 := hx.1
  have h2 : x.cps.size ≤ 1000000 := by have := hx.2; unfold Str.length at this; lia
  cases b
  · walk_at "ts"
  · walk_at "ts"
end
section
noncomputable abbrev pairV (p : Str × Str) : V := .tup [.str p.1, .str p.2]
noncomputable def hget (ps : List (Str × Str)) (x : Str) : Option Str := (ps.find? fun p => Txt.lower p.1 == Txt.lower x).map (·.2)
noncomputable def optV : Option Str → V
  | none => .none
  | some b => .str b
structure HeadOk (ps : List (Str × Str)) : Prop where
  short : ∀ p ∈ ps, p.1.length ≤ 1000 ∧ p.2.length ≤ 1000
  few : ps.length ≤ 100
theorem get_m {w : World} {i j k : Nat} {ps : List (Str × Str)} {x : Str} (hh : HdrAt H i j k (ps.map pairV)) (ho : HeadOk ps) (hx : x.length ≤ 1000) (hl : plainS (Txt.lower x)) : Meets w 4 1 (.ref 233) [.obj i, .str x] H (optV (hget ps x)) H := by
  refine meets_defC (J := []) (lv := 3) (ps := [Str.ofString "self", Str.ofString "name", Str.ofString "default"]) (ds := [.none]) (dxs := [.none]) (Nat.le_refl _) (by k_is) (by k_is) rfl (.cons .none .nil) (by intro s vs hv X; (refine e21 (len2 hv) fun a b q79_ => ?_; subst q79_); exact BindsTo.of_defaults (o := _) rfl (X _ _ (by k_is)) rfl rfl rfl) (by decide) (by rfl) id (fun _ => by unfold optV; split <;> rfl) (Nat.le_refl _) (by rfl) ?_
  intro c hw hn hR hok hxs
  have hn1 : 1 ≤ c.n := Nat.le_of_eq hn.symm
  rw [List.append_nil]
  subst hw
  obtain ⟨hi, hj, hk⟩ := hh
  have hcv : MeetsA c.w 2 1 (.ref 185) mkK [.obj i, .str (Txt.lower x), .bool true] H (.str (Txt.lower x)) H := convert_m hl
  have hx2 : x.length ≤ 5592405 := by lia
  walk_at "nx"
  refine TS_forI (KH := fun H => H[k]? = some (.list (ps.map pairV))) (fun xs vs H' => H' = H ∧ ∃ l : List (Str × Str), xs = l.map pairV ∧ (∀ p ∈ l, p.1.length ≤ 1000) ∧ hget l x = hget ps x ∧ vs = [(Str.ofString "self", .obj i), (Str.ofString "name", .str (Txt.lower x)), (Str.ofString "default", .none)])
    (fun vs H' => H' = H ∧ hget ps x = none ∧ vs.lookup (Str.ofString "default") = some .none) (ItR_of (by walk_at "te") walk_obj hk) ⟨rfl, ps, rfl, fun p hp => (ho.short p hp).1, rfl, rfl⟩ (fun _ => rfl) ?_ ?_ ?_
  · (intro y xs vs H' q23_; (refine e02 q23_ fun q50_ q52_ => ?_; try clear q23_; subst q50_; obtain ⟨l, hl1, hl2, hl3, rfl⟩ := q52_))
    refine ⟨hk, ?_⟩
    cases l with
    | nil => exact cn hl1
    | cons p l =>
      rw [List.map_cons] at hl1
      injection hl1 with h1 h2
      subst h1 h2
      have hp := hl2 p (.head _)
      have hp2 : p.1.length ≤ 5592405 := by lia
      by_cases hq : (Txt.lower p.1 == Txt.lower x) = true
      · refine .ret (r := .str p.2) (by walk_at "tas") (by walk_at "ts") ?_ rfl
        rw [← hl3]; unfold hget; rw [List.find?_cons_of_pos (p := fun p : Str × Str => Txt.lower p.1 == Txt.lower x) hq]; rfl
      · have hq2 : (Txt.lower p.1 == Txt.lower x) = false := by simpa using hq
        refine .go (fl := .next) (vars2 := [(Str.ofString "self", .obj i), (Str.ofString "name", .str (Txt.lower x)), (Str.ofString "default", .none)]) (by walk_at "tas") (TS_weak (by walk_at "ts") (fun y v hl => ?_)) rfl ⟨rfl, l, rfl, fun q hq => hl2 q (.tail _ hq), ?_, rfl⟩
        · exact lookup_pre hl
        · rw [← hl3]; unfold hget; rw [List.find?_cons_of_neg (p := fun p : Str × Str => Txt.lower p.1 == Txt.lower x) hq]
  · (intro vs H' q24_; (refine e02 q24_ fun q53_ q55_ => ?_; try clear q24_; subst q53_; obtain ⟨l, hl1, hl2, hl3, rfl⟩ := q55_))
    cases l with
    | cons z l => exact nc hl1
    | nil => exact ⟨hk, .inl ⟨_, _, TS_nil, rfl, hl3.symm, rfl⟩⟩
  · (intro vs H' q25_; (refine e03 q25_ fun q80_ hn hv => ?_; try clear q25_; subst q80_))
    rw [hn]
    exact TS_ret (TS1_return (TE_var hv (by decide)))
end
section
local macro_rules | `(tactic| walk_at "pc") => `(tactic| walk_at "!PC_m a:as n:as r:as l:r")
theorem contains_m {w : World} {i j k : Nat} {ps : List (Str × Str)} {x : Str} (hh : HdrAt H i j k (ps.map pairV)) (ho : HeadOk ps) (hx : x.length ≤ 1000) (hl : plainS (Txt.lower x)) : Meets w 5 1 (.ref 218) [.obj i, .str x] H (.bool (hget ps x).isSome) H := by
  refine meets_defC (J := []) (lv := 4) (ps := [Str.ofString "self", Str.ofString "name"]) (ds := []) (dxs := []) (Nat.le_refl _) (by k_is) (by k_is) rfl .nil (by intro s vs hv X; (refine e21 (len2 hv) fun a b q81_ => ?_; subst q81_); exact BindsTo.of_eq rfl) (by decide) (by rfl) id (fun _ => rfl) (Nat.le_refl _) (by rfl) ?_
  intro c hw hn hR hok hxs
  have hn1 : 1 ≤ c.n := Nat.le_of_eq hn.symm
  rw [List.append_nil, List.append_nil]
  subst hw
  obtain ⟨hi, hj, hk⟩ := id hh
  have hg := get_m (w := c.w) hh ho hx hl
  cases hq : hget ps x with
  | none =>
    rw [hq] at hg
    have hg' : Meets c.w 4 1 (.ref 233) [.obj i, .str x] H .none H := hg
    walk_at "ts"
  | some b =>
    rw [hq] at hg
    have hg' : Meets c.w 4 1 (.ref 233) [.obj i, .str x] H (.str b) H := hg
    walk_at "ts"
theorem getitem_m {w : World} {i j k : Nat} {ps : List (Str × Str)} {x : Str} (hh : HdrAt H i j k (ps.map pairV)) (ho : HeadOk ps) (hx : x.length ≤ 1000) (hl : plainS (Txt.lower x)) : Meets w 5 1 (.ref 211) [.obj i, .str x] H (optV (hget ps x)) H := by
  refine meets_defC (J := []) (lv := 4) (ps := [Str.ofString "self", Str.ofString "name"]) (ds := []) (dxs := []) (Nat.le_refl _) (by k_is) (by k_is) rfl .nil (by intro s vs hv X; (refine e21 (len2 hv) fun a b q82_ => ?_; subst q82_); exact BindsTo.of_eq rfl) (by decide) (by rfl) id (fun _ => by unfold optV; split <;> rfl) (Nat.le_refl _) (by rfl) ?_
  intro c hw hn hR hok hxs
  have hn1 : 1 ≤ c.n := Nat.le_of_eq hn.symm
  rw [List.append_nil, List.append_nil]
  subst hw
  obtain ⟨hi, hj, hk⟩ := id hh
  have hg := get_m (w := c.w) hh ho hx hl
  walk_at "ts"
theorem items_m {w : World} {i j k : Nat} {xs : List V} (hh : HdrAt H i j k xs) (hl : xs.length ≤ 1000) : Meets w 2 1 (.ref 250) [.obj i] H (.obj H.length) (H ++ [.list xs]) := by
  refine meets_defC (J := []) (lv := 1) (ps := [Str.ofString "self"]) (ds := []) (dxs := []) (Nat.le_refl _) (by k_is) (by k_is) rfl .nil (by intro s vs hv X; (refine Exists.elim (len1 hv) fun a q83_ => ?_; subst q83_); exact BindsTo.of_eq rfl) (by decide) (by rfl) (fun hok => HOk.snoc hok (HOk.list hok hh.hk)) (fun _ => by unfold V.lt; simp) (by simp) (by rfl) ?_
  intro c hw hn hR hok hxs
  have hn1 : 1 ≤ c.n := Nat.le_of_eq hn.symm
  rw [List.append_nil, List.append_nil]
  subst hw
  obtain ⟨hi, hj, hk⟩ := id hh
  have hsz : xs.length ≤ sizeLine := by rw [sizeLine_eq]; lia
  walk_at "ts"
theorem len_m {w : World} {i j k : Nat} {xs : List V} (hh : HdrAt H i j k xs) (hl : xs.length ≤ 1000) : Meets w 2 1 (.ref 192) [.obj i] H (.int xs.length) H := by
  refine meets_defC (J := []) (lv := 1) (ps := [Str.ofString "self"]) (ds := []) (dxs := []) (Nat.le_refl _) (by k_is) (by k_is) rfl .nil (by intro s vs hv X; (refine Exists.elim (len1 hv) fun a q84_ => ?_; subst q84_); exact BindsTo.of_eq rfl) (by decide) (by rfl) id (fun _ => rfl) (Nat.le_refl _) (by rfl) ?_
  intro c hw hn hR hok hxs
  have hn1 : 1 ≤ c.n := Nat.le_of_eq hn.symm
  rw [List.append_nil, List.append_nil]
  subst hw
  obtain ⟨hi, hj, hk⟩ := id hh
  have hsz : xs.length ≤ 16777216 := by lia
  refine TS_ret (TS1_return (TE_call (f := .builtin "len") (xs := [.obj k]) (H1 := H) ?a ?b ?c ?d ?he ?hp))
  case he => with_unfolding_all rfl
  case hp => with_unfolding_all rfl
  case a => walk_at "te"
  case b => walk_at "kept"
  case c => walk_at "tes"
  case d => exact PC_lenO hk hsz
theorem keys_m {w : World} {i j k : Nat} {ps : List (Str × Str)} (hh : HdrAt H i j k (ps.map pairV)) (ho : HeadOk ps) : Meets w 2 1 (.ref 238) [.obj i] H (.lst (ps.map fun p => V.str p.1)) H := by
  refine meets_defC (J := []) (lv := 1) (ps := [Str.ofString "self"]) (ds := []) (dxs := []) (Nat.le_refl _) (by k_is) (by k_is) rfl .nil (by intro s vs hv X; (refine Exists.elim (len1 hv) fun a q85_ => ?_; subst q85_); exact BindsTo.of_eq rfl) (by decide) (by rfl) id (fun _ => by unfold V.lt; rw [Vs.lt_iff]; intro x hx; (refine e12 (List.mem_map.mp hx) fun p _ q86_ => ?_; subst q86_); rfl) (Nat.le_refl _) (by rfl) ?_
  intro c hw hn hR hok hxs
  have hn1 : 1 ≤ c.n := Nat.le_of_eq hn.symm
  rw [List.append_nil, List.append_nil]
  subst hw
  obtain ⟨hi, hj, hk⟩ := id hh
  have hsz : (ps.map pairV).length ≤ sizeLine := by rw [List.length_map, sizeLine_eq]; have := ho.few; lia
  refine TS_ret (TS1_return (TE_comp (cl := []) (own := []) [] (ItR_of (KH := fun H => H[k]? = some (.list (ps.map pairV))) ?a walk_obj hk) ?b ?cc ?d ?e ?f ?g hsz ?h))
  case b => with_unfolding_all rfl
  case cc => rfl
  case d => decide
  case e => intro _; rfl
  case f => exact fun C => CapOk.nil
  case g => exact fun C _ => OwnOk.nil
  case a => walk_at "te"
  case h =>
    intro C m
    exact CmpR_map hk fun p hp => ⟨_, by walk_at "tas", (fun y v h => by simp at h), by walk_at "te"⟩
end
section
noncomputable def hdel (ps : List (Str × Str)) (x : Str) : List (Str × Str) := ps.filter fun p => Txt.lower p.1 != Txt.lower x
theorem pairs_lt {n : Nat} (ps : List (Str × Str)) : Vs.lt n (ps.map pairV) = true := by
  rw [Vs.lt_iff]; intro x hx; (refine e12 (List.mem_map.mp hx) fun p _ q87_ => ?_; subst q87_); rfl
theorem delitem_m {w : World} {i j k : Nat} {ps : List (Str × Str)} {x : Str} (hh : HdrAt H i j k (ps.map pairV)) (ho : HeadOk ps) (hx : x.length ≤ 1000) (hl : plainS (Txt.lower x)) : Meets w 4 1 (.ref 204) [.obj i, .str x] H .none (H.set k (.list ((hdel ps x).map pairV))) := by
  refine meets_defN (J := []) (lv := 3) (ps := [Str.ofString "self", Str.ofString "name"]) (ds := []) (dxs := []) (Nat.le_refl _) (by k_is) (by k_is) rfl .nil (by intro s vs hv X; (refine e21 (len2 hv) fun a b q88_ => ?_; subst q88_); exact BindsTo.of_eq rfl) (by decide) (by rfl) (fun hok => HOk.set hok (pairs_lt _)) (by simp) (by rfl) ?_
  intro c hw hn hR hok hxs
  have hn1 : 1 ≤ c.n := Nat.le_of_eq hn.symm
  rw [List.append_nil, List.append_nil]
  subst hw
  obtain ⟨hi, hj, hk⟩ := id hh
  have hcv : MeetsA c.w 2 1 (.ref 185) mkK [.obj i, .str (Txt.lower x), .bool true] H (.str (Txt.lower x)) H := convert_m hl
  have hx2 : x.length ≤ 5592405 := by lia
  have hsz : (ps.map pairV).length ≤ sizeLine := by rw [List.length_map, sizeLine_eq]; have := ho.few; lia
  have hlen : (ps.map pairV).length + ((hdel ps x).map pairV).length ≤ 1000 := by
    rw [List.length_map, List.length_map]; have := ho.few; have : (hdel ps x).length ≤ ps.length := List.length_filter_le _ _; lia
  walk_at "nx"
  refine TS_next (TS1_setall (H1 := H) (xs := ps.map pairV) (zs := (hdel ps x).map pairV) (i := k) ?v ?a hk hlen ?m) TS_nil0
  case m => with_unfolding_all rfl
  case a => walk_at "te"
  case v =>
    refine TE_comp (cl := ?cl) (own := []) [(Str.ofString "name", .str (Txt.lower x))] (ItR_of (KH := fun H => H[k]? = some (.list (ps.map pairV))) ?a walk_obj hk) ?b ?cc ?d ?e ?f ?g hsz ?h
    case b => with_unfolding_all rfl
    case cc => rfl
    case d => decide
    case e => intro _; rfl
    case f => walk_at "cap"
    case g => exact fun C _ => OwnOk.nil
    case a => walk_at "te"
    case h =>
      intro C m
      refine CmpR_filter hk (fun p hp => ?_) _ (fun _ _ h => h)
      have hp2 : p.1.length ≤ 5592405 := by have := (ho.short p hp).1; lia
      refine ⟨_, by walk_at "tas", by walk_at "ext", ?_, fun _ => by walk_at "te"⟩
      refine CTest.one ?_
      walk_at "tb"
end
section
local macro_rules | `(tactic| walk_at "mth") => `(tactic| walk_at "!Mth_list a %F.slot_list_append %F.type_list_append ; a:as")
local macro_rules | `(tactic| walk_at "pc") => `(tactic| walk_at "!PC_append q:as l:as|PC_typeL q:as")
local macro_rules | `(tactic| walk_at "po") => `(tactic| walk_at "!PO_isnT'|PO_isT'")
theorem setitem_m {w : World} {i j k : Nat} {ps : List (Str × Str)} {x y : Str} (hh : HdrAt H i j k (ps.map pairV)) (ho : HeadOk ps) (hx : x.length ≤ 1000) (hl : plainS (Txt.lower x)) (hpx : plainS x) (hpy : plainS y) :
    Meets w 5 1 (.ref 199) [.obj i, .str x, .str y] H .none (H.set k (.list ((hdel ps x ++ [(x, y)]).map pairV))) := by
  refine meets_defN (J := []) (lv := 4) (ps := [Str.ofString "self", Str.ofString "name", Str.ofString "val"]) (ds := []) (dxs := []) (Nat.le_refl _) (by k_is) (by k_is) rfl .nil (by intro s vs hv X; (refine e31 (len3 hv) fun a b d q89_ => ?_; subst q89_); exact BindsTo.of_eq rfl) (by decide) (by rfl) (fun hok => HOk.set hok (pairs_lt _)) (by simp) (by rfl) ?_
  intro c hw hn hR hok hxs
  have hn1 : 1 ≤ c.n := Nat.le_of_eq hn.symm
  rw [List.append_nil, List.append_nil]
  subst hw
  obtain ⟨hi, hj, hk⟩ := id hh
  have hd1 := delitem_m (w := c.w) hh ho hx hl
  obtain ⟨hi2, hj2, hk2⟩ := HdrAt.set (qs := (hdel ps x).map pairV) hh
  have hcx : MeetsA c.w 2 1 (.ref 185) mkK [.obj i, .str x, .bool true] (H.set k (.list ((hdel ps x).map pairV))) (.str x) (H.set k (.list ((hdel ps x).map pairV))) := convert_m hpx
  have hcy : MeetsA c.w 2 1 (.ref 185) mkK [.obj i, .str y, .bool false] (H.set k (.list ((hdel ps x).map pairV))) (.str y) (H.set k (.list ((hdel ps x).map pairV))) := convert_m hpy
  have hlen : ((hdel ps x).map pairV).length ≤ 1000 := by
    rw [List.length_map]; have := ho.few; have : (hdel ps x).length ≤ ps.length := List.length_filter_le _ _; lia
  have e1 : H.set k (.list ((hdel ps x ++ [(x, y)]).map pairV)) = (H.set k (.list ((hdel ps x).map pairV))).set k (.list ((hdel ps x).map pairV ++ [pairV (x, y)])) := by rw [List.set_set, List.map_append]; rfl
  rw [e1]
  walk_at "ts"
noncomputable def allPlain (ps : List (Str × Str)) : Prop := ∀ p ∈ ps, plainS p.1 ∧ plainS p.2
theorem init_m1 {w : World} {i j k : Nat} {ps : List (Str × Str)} (hi : H[i]? = some (.inst j)) (hj : H[j]? = some (.idict none)) (hk : H[k]? = some (.list (ps.map pairV))) (hp : allPlain ps) :
    Meets w 3 1 (.ref 178) [.obj i, .obj k] H .none (H.set j (.idict (some (.obj k)))) := by
  have hlt : k < H.length := lt_of_get hk
  refine meets_defN (J := []) (lv := 2) (ps := [Str.ofString "self", Str.ofString "headers"]) (ds := []) (dxs := []) (Nat.le_refl _) (by k_is) (by k_is) rfl .nil (by intro s vs hv X; (refine e21 (len2 hv) fun a b q90_ => ?_; subst q90_); exact BindsTo.of_defaults (o := _) rfl (X _ _ (by k_is)) rfl rfl rfl) (by decide) (by rfl) (fun hok => HOk.set hok (by unfold MO.lt V.lt; exact decide_eq_true hlt)) (by simp) (by rfl) ?_
  intro c hw hn hR hok hxs
  have hn1 : 1 ≤ c.n := Nat.le_of_eq hn.symm
  rw [List.append_nil, List.append_nil]
  subst hw
  have hkj : j ≠ k := fun z => by rw [← z, hj] at hk; (replace hk := Option.some.inj hk; cases hk)
  have hki : j ≠ i := fun z => by rw [← z, hj] at hi; (replace hi := Option.some.inj hi; cases hi)
  have hi2 := get_set_ne (b := .idict (some (.obj k))) hi hki
  have hj2 := get_set_eq (b := .idict (some (.obj k))) hj
  have hk2 := get_set_ne (b := .idict (some (.obj k))) hk hkj
  walk_at "nx"
  walk_at "nx"
  walk_at "nx"
  refine TS_next (vars' := []) (TS1_if' (by walk_at "tb") (.inl ⟨rfl, ?_⟩)) TS_nil0
  refine TS_forI (KH := fun H => H[k]? = some (.list (ps.map pairV))) (fun xs vs H' => H' = H.set j (.idict (some (.obj k))) ∧ ∃ l : List (Str × Str), xs = l.map pairV ∧ allPlain l ∧ vs = [(Str.ofString "self", .obj i), (Str.ofString "headers", .obj k)])
    (fun vs H' => H' = H.set j (.idict (some (.obj k)))) (ItR_of (by walk_at "te") walk_obj hk2) ⟨rfl, ps, rfl, hp, rfl⟩ (fun _ => rfl) ?_ ?_ ?_
  · (intro y xs vs H' q26_; (refine e02 q26_ fun q56_ q58_ => ?_; try clear q26_; subst q56_; obtain ⟨l, hl1, hl2, rfl⟩ := q58_))
    refine ⟨hk2, ?_⟩
    cases l with
    | nil => exact cn hl1
    | cons p l =>
      rw [List.map_cons] at hl1
      injection hl1 with h1 h2
      subst h1 h2
      have hp1 := hl2 p (.head _)
      have hcx : MeetsA c.w 2 1 (.ref 185) mkK [.obj i, .str p.1, .bool true] (H.set j (.idict (some (.obj k)))) (.str p.1) (H.set j (.idict (some (.obj k)))) := convert_m hp1.1
      have hcy : MeetsA c.w 2 1 (.ref 185) mkK [.obj i, .str p.2, .bool false] (H.set j (.idict (some (.obj k)))) (.str p.2) (H.set j (.idict (some (.obj k)))) := convert_m hp1.2
      refine .go (fl := .next) (vars2 := [(Str.ofString "self", .obj i), (Str.ofString "headers", .obj k)]) (by walk_at "tas") (TS_weak (by walk_at "ts") (fun y v hl => ?_)) rfl ⟨rfl, l, rfl, fun q hq => hl2 q (.tail _ hq), rfl⟩
      exact lookup_pre hl
  · (intro vs H' q27_; (refine e02 q27_ fun q59_ q61_ => ?_; try clear q27_; subst q59_; obtain ⟨l, hl1, hl2, rfl⟩ := q61_))
    cases l with
    | cons z l => exact nc hl1
    | nil => exact ⟨hk2, .inl ⟨_, _, TS_nil, rfl⟩⟩
  · (intro vs H' q28_; subst q28_)
    exact TS_nil0
theorem init_m0 {w : World} {i j : Nat} (hi : H[i]? = some (.inst j)) (hj : H[j]? = some (.idict none)) :
    Meets w 3 1 (.ref 178) [.obj i] H .none ((H ++ [MO.list []]).set j (.idict (some (.obj H.length)))) := by
  refine meets_defN (J := []) (lv := 2) (ps := [Str.ofString "self", Str.ofString "headers"]) (ds := [.none]) (dxs := [.none]) (Nat.le_refl _) (by k_is) (by k_is) rfl (.cons .none .nil) (by intro s vs hv X; (refine Exists.elim (len1 hv) fun a q91_ => ?_; subst q91_); exact BindsTo.of_defaults (o := _) rfl (X _ _ (by k_is)) rfl rfl rfl) (by decide) (by rfl) (fun hok => HOk.set (HOk.snoc hok rfl) (by unfold MO.lt V.lt; exact decide_eq_true (by simp))) (by simp) (by rfl) ?_
  intro c hw hn hR hok hxs
  have hn1 : 1 ≤ c.n := Nat.le_of_eq hn.symm
  rw [List.append_nil]
  subst hw
  have hlj := lt_of_get hj
  have hi1 := get_app (J := [MO.list []]) hi
  have hj1 := get_app (J := [MO.list []]) hj
  have hk1 : (H ++ [MO.list []])[H.length]? = some (.list []) := get_last
  have hkj : j ≠ H.length := by lia
  have hki : j ≠ i := fun z => by rw [← z, hj] at hi; (replace hi := Option.some.inj hi; cases hi)
  have hi2 := get_set_ne (b := .idict (some (.obj H.length))) hi1 hki
  have hj2 := get_set_eq (b := .idict (some (.obj H.length))) hj1
  have hk2 := get_set_ne (b := .idict (some (.obj H.length))) hk1 hkj
  refine TS_next (TS1_assign (v := .obj H.length) (H1 := H ++ [.list []]) (TE_if' (q := false) (by walk_at "tb") (.inr ⟨rfl, ?_⟩)) (by walk_at "store") (by with_unfolding_all rfl)) ?_
  · exact TE_listM (by walk_at "tes") (by decide)
  walk_at "nx"
  walk_at "nx"
  refine TS_next (vars' := []) (TS1_if' (by walk_at "tb") (.inl ⟨rfl, ?_⟩)) TS_nil0
  refine TS_forI (KH := fun H' => H'[H.length]? = some (MO.list [])) (fun xs vs H' => H' = (H ++ [MO.list []]).set j (.idict (some (.obj H.length))) ∧ xs = [])
    (fun vs H' => H' = (H ++ [MO.list []]).set j (.idict (some (.obj H.length)))) (ItR_of (by walk_at "te") walk_obj hk2) ⟨rfl, rfl⟩ (fun _ => rfl) ?_ ?_ ?_
  · (intro y xs vs H' q29_; (refine e02 q29_ fun q92_ hl => ?_; try clear q29_; subst q92_)); exact cn hl
  · (intro vs H' q30_; (refine e02 q30_ fun q93_ _ => ?_; try clear q30_; subst q93_))
    exact ⟨hk2, .inl ⟨_, _, TS_nil, rfl⟩⟩
  · (intro vs H' q31_; subst q31_)
    exact TS_nil0
end
section
local macro_rules | `(tactic| walk_at "po") => `(tactic| walk_at "!PO_isnL a:as b:as d:as|PO_isnN|PO_isnNN a:r|PO_neV a:as b:as u:room h:as|PO_in a:as b:as f1:k f2:k h:as n:as r:room|PO_getitem a:as b:as f1:k f2:k f3:k h:as n:as r:room s:z2")
theorem isnot_N {w : World} : Meets w 2 1 (.ref 52) [.none, .none] H (.bool false) H := by
  refine meets_defC (J := []) (lv := 1) (ps := [Str.ofString "a", Str.ofString "b"]) (ds := []) (dxs := []) (Nat.le_refl _) (by k_is) (by k_is) rfl .nil (by intro s vs hv X; (refine e21 (len2 hv) fun a b q94_ => ?_; subst q94_); exact BindsTo.of_eq rfl) (by decide) (by rfl) id (fun _ => rfl) (Nat.le_refl _) (by rfl) ?_
  intro c hw hn hR hok hxs
  rw [List.append_nil, List.append_nil]
  walk_at "ts"
theorem isnot_S {w : World} {x : Str} : Meets w 2 1 (.ref 52) [.str x, .none] H (.bool true) H := by
  refine meets_defC (J := []) (lv := 1) (ps := [Str.ofString "a", Str.ofString "b"]) (ds := []) (dxs := []) (Nat.le_refl _) (by k_is) (by k_is) rfl .nil (by intro s vs hv X; (refine e21 (len2 hv) fun a b q95_ => ?_; subst q95_); exact BindsTo.of_eq rfl) (by decide) (by rfl) id (fun _ => rfl) (Nat.le_refl _) (by rfl) ?_
  intro c hw hn hR hok hxs
  rw [List.append_nil, List.append_nil]
  walk_at "ts"
theorem isnot_o {w : World} {o : Option Str} : Meets w 2 1 (.ref 52) [optV o, .none] H (.bool o.isSome) H := by
  cases o with
  | none => exact isnot_N
  | some x => exact isnot_S
theorem isnot_L {w : World} {i j : Nat} {xs ys : List V} (hi : H[i]? = some (.list xs)) (hj : H[j]? = some (.list ys)) (hij : i ≠ j) : Meets w 2 1 (.ref 52) [.obj i, .obj j] H (.bool true) H := by
  refine meets_defC (J := []) (lv := 1) (ps := [Str.ofString "a", Str.ofString "b"]) (ds := []) (dxs := []) (Nat.le_refl _) (by k_is) (by k_is) rfl .nil (by intro s vs hv X; (refine e21 (len2 hv) fun a b q96_ => ?_; subst q96_); exact BindsTo.of_eq rfl) (by decide) (by rfl) id (fun _ => rfl) (Nat.le_refl _) (by rfl) ?_
  intro c hw hn hR hok hxs
  rw [List.append_nil, List.append_nil]
  walk_at "ts"
theorem ne_m {w : World} {x y : V} {b : Bool} (h1 : ∀ H, kqdOk 8 (x.D H) = true) (h2 : ∀ H, kqdOk 8 (y.D H) = true) (hb : ∀ H, x.D H = y.D H ↔ b = false) : Meets w 2 1 (.ref 45) [x, y] H (.bool b) H := by
  refine meets_defC (J := []) (lv := 1) (ps := [Str.ofString "a", Str.ofString "b"]) (ds := []) (dxs := []) (Nat.le_refl _) (by k_is) (by k_is) rfl .nil (by intro s vs hv X; (refine e21 (len2 hv) fun a b q97_ => ?_; subst q97_); exact BindsTo.of_eq rfl) (by decide) (by rfl) id (fun _ => rfl) (Nat.le_refl _) (by rfl) ?_
  intro c hw hn hR hok hxs
  rw [List.append_nil, List.append_nil]
  have h1 := h1 H
  have h2 := h2 H
  have hb := hb H
  walk_at "ts"
theorem ocontains_m {w : World} {i j k : Nat} {ps : List (Str × Str)} {x : Str} (hh : HdrAt H i j k (ps.map pairV)) (ho : HeadOk ps) (hx : x.length ≤ 1000) (hl : plainS (Txt.lower x)) : Meets w 7 1 (.ref 66) [.obj i, .str x] H (.bool (hget ps x).isSome) H := by
  refine meets_defC (J := []) (lv := 6) (ps := [Str.ofString "a", Str.ofString "b"]) (ds := []) (dxs := []) (Nat.le_refl _) (by k_is) (by k_is) rfl .nil (by intro s vs hv X; (refine e21 (len2 hv) fun a b q98_ => ?_; subst q98_); exact BindsTo.of_eq rfl) (by decide) (by rfl) id (fun _ => rfl) (Nat.le_refl _) (by rfl) ?_
  intro c hw hn hR hok hxs
  have hn1 : 1 ≤ c.n := Nat.le_of_eq hn.symm
  rw [List.append_nil, List.append_nil]
  subst hw
  obtain ⟨hi, hj, hk⟩ := id hh
  have hg := contains_m (w := c.w) hh ho hx hl
  walk_at "ts"
theorem ogetitem_m {w : World} {i j k : Nat} {ps : List (Str × Str)} {x : Str} (hh : HdrAt H i j k (ps.map pairV)) (ho : HeadOk ps) (hx : x.length ≤ 1000) (hl : plainS (Txt.lower x)) : Meets w 7 1 (.ref 80) [.obj i, .str x] H (optV (hget ps x)) H := by
  refine meets_defC (J := []) (lv := 6) (ps := [Str.ofString "a", Str.ofString "b"]) (ds := []) (dxs := []) (Nat.le_refl _) (by k_is) (by k_is) rfl .nil (by intro s vs hv X; (refine e21 (len2 hv) fun a b q99_ => ?_; subst q99_); exact BindsTo.of_eq rfl) (by decide) (by rfl) id (fun _ => by unfold optV; split <;> rfl) (Nat.le_refl _) (by rfl) ?_
  intro c hw hn hR hok hxs
  have hn1 : 1 ≤ c.n := Nat.le_of_eq hn.symm
  rw [List.append_nil, List.append_nil]
  subst hw
  obtain ⟨hi, hj, hk⟩ := id hh
  have hg := getitem_m (w := c.w) hh ho hx hl
  walk_at "ts"
theorem osetitem_m {w : World} {i j k : Nat} {ps : List (Str × Str)} {x y : Str} (hh : HdrAt H i j k (ps.map pairV)) (ho : HeadOk ps) (hx : x.length ≤ 1000) (hl : plainS (Txt.lower x)) (hpx : plainS x) (hpy : plainS y) :
    Meets w 7 1 (.ref 94) [.obj i, .str x, .str y] H .none (H.set k (.list ((hdel ps x ++ [(x, y)]).map pairV))) := by
  refine meets_defN (J := []) (lv := 6) (ps := [Str.ofString "a", Str.ofString "b", Str.ofString "c"]) (ds := []) (dxs := []) (Nat.le_refl _) (by k_is) (by k_is) rfl .nil (by intro s vs hv X; (refine e31 (len3 hv) fun a b d q100_ => ?_; subst q100_); exact BindsTo.of_eq rfl) (by decide) (by rfl) (fun hok => HOk.set hok (pairs_lt _)) (by simp) (by rfl) ?_
  intro c hw hn hR hok hxs
  have hn1 : 1 ≤ c.n := Nat.le_of_eq hn.symm
  rw [List.append_nil, List.append_nil]
  subst hw
  obtain ⟨hi, hj, hk⟩ := id hh
  have hg := setitem_m (w := c.w) hh ho hx hl hpx hpy
  walk_at "ts"
end
section
local macro_rules | `(tactic| walk_at "tb") => `(tactic| walk_at "!TB_isorI a b a2 b2 z x y m m2 ; m:u m2:u a:te b:te a2:te b2:te z:as x:as y:as")
noncomputable abbrev enumFrom (xs : List V) (k : Nat) : List V := (xs.zipIdx k).map fun p => V.tup [V.int (p.2 : Int), p.1]
theorem sing_eq {a b : Nat} : ((⟨#[a]⟩ : Str) == strL [b]) = (a == b) := by
  by_cases h : a = b
  · subst h; simp
  · have : (⟨#[a]⟩ : Str) ≠ strL [b] := fun q => h (by injection q with q; simpa using q)
    rw [beq_eq_false_iff_ne.mpr this, beq_eq_false_iff_ne.mpr h]
theorem indexOf_S {w : World} {a : Str} {z u : Nat} (hu : 1 ≤ u) (ha : a.cps.all (· < 128) = true) (hz : z ∈ a.cps.toList) : Meets w 2 (u + 1) (.ref 87) [.str a, .strP (strL [z]) (· = u)] H (.int ((a.cps.toList.idxOf z : Nat) : Int)) H := by
  refine meets_defC (J := []) (lv := 1) (ps := [Str.ofString "a", Str.ofString "b"]) (ds := []) (dxs := []) (Nat.le_add_left 1 u) (by k_is) (by k_is) rfl .nil (by intro s vs hv X; (refine e21 (len2 hv) fun a b q101_ => ?_; subst q101_); exact BindsTo.of_eq rfl) (by decide) (by rfl) id (fun _ => rfl) (Nat.le_refl _) (by rfl) ?_
  intro c hw hn hR hok hxs
  rw [List.append_nil, List.append_nil]
  subst hw
  have nb : ∀ h, (top0.heap_1 c.w.params).In h → NoneBooked h := fun h X => noneBooked X
  have ht : ∀ t v : Nat, c.n ≤ t → v = u → t ≠ 0 ∧ v ≠ 0 ∧ t ≠ v := fun t v h1 h2 => by lia
  refine TS_forI (KH := fun _ => True) (fun xs vs H' => H' = H ∧ ∃ (l : List Nat) (k : Nat), xs = enumFrom (l.map fun k => V.strP ⟨#[k]⟩ fun t => c.n ≤ t) k ∧ z ∈ l ∧ k + l.idxOf z = a.cps.toList.idxOf z ∧ vs = [(Str.ofString "a", .str a), (Str.ofString "b", .strP (strL [z]) (· = u))])
    (fun vs H' => False) (ItR_enumS (by walk_at "te") (by walk_at "te") ha (by with_unfolding_all rfl)) ⟨rfl, a.cps.toList, 0, rfl, hz, by lia, rfl⟩ (fun _ => rfl) ?_ ?_ ?_
  · (intro x xs vs H' q32_; (refine e02 q32_ fun q62_ q64_ => ?_; try clear q32_; subst q62_; obtain ⟨l, k, hl, hzl, hk, rfl⟩ := q64_))
    refine ⟨trivial, ?_⟩
    cases l with
    | nil => exact cn hl
    | cons y l =>
      rw [enumFrom, List.map_cons, List.zipIdx_cons, List.map_cons] at hl
      injection hl with h1 h2
      subst h1 h2
      by_cases hy : y = z
      · have hq : ((⟨#[y]⟩ : Str) == strL [z]) = true := by rw [sing_eq]; simpa using hy
        refine .ret (r := .int (k : Nat)) (by walk_at "tas") (by walk_at "ts") ?_ rfl
        have : (y :: l).idxOf z = 0 := by rw [hy]; simp
        rw [this] at hk
        rw [← hk]; rfl
      · have hq : ((⟨#[y]⟩ : Str) == strL [z]) = false := by rw [sing_eq]; simpa using hy
        refine .go (fl := .next) (vars2 := [(Str.ofString "a", .str a), (Str.ofString "b", .strP (strL [z]) (· = u))]) (by walk_at "tas") (TS_weak (by walk_at "ts") (fun y v hl => ?_)) rfl ⟨rfl, l, k + 1, rfl, ?_, ?_, rfl⟩
        · exact lookup_pre hl
        · (refine Or.elim (List.mem_cons.mp hzl) (fun q => ?_) (fun q => ?_))
          · exact absurd q.symm hy
          · exact q
        · have : (y :: l).idxOf z = l.idxOf z + 1 := by
            have hyb : (y == z) = false := by simpa using hy
            rw [List.idxOf_cons, hyb]; rfl
          lia
  · (intro vs H' q33_; (refine e02 q33_ fun q65_ q67_ => ?_; try clear q33_; subst q65_; obtain ⟨l, k, hl, hzl, hk, rfl⟩ := q67_))
    cases l with
    | nil => cases hzl
    | cons y l => exact nc hl
  · rintro vs H' hf; exact hf.elim
theorem indexOf_L {w : World} {xs : List Int} {z : Int} {t₀ : Nat} (h0 : 1 ≤ t₀) (hz : z ∈ xs) (hs : ∀ x ∈ xs, 0 ≤ x ∧ x ≤ 256) : Meets w 2 1 (.ref 87) [.lst (cohL t₀ xs), .intP z (· = t₀ + z.toNat)] H (.int ((xs.idxOf z : Nat) : Int)) H := by
  refine meets_defC (J := []) (lv := 1) (ps := [Str.ofString "a", Str.ofString "b"]) (ds := []) (dxs := []) (Nat.le_refl _) (by k_is) (by k_is) rfl .nil (by intro s vs hv X; (refine e21 (len2 hv) fun a b q102_ => ?_; subst q102_); exact BindsTo.of_eq rfl) (by decide) (by rfl) id (fun _ => rfl) (Nat.le_refl _) (by rfl) ?_
  intro c hw hn hR hok hxs
  rw [List.append_nil, List.append_nil]
  subst hw
  have hzz := hs z hz
  refine TS_forI (KH := fun _ => True) (fun ys vs H' => H' = H ∧ ∃ (l : List Int) (k : Nat), ys = enumFrom (cohL t₀ l) k ∧ z ∈ l ∧ (∀ x ∈ l, 0 ≤ x ∧ x ≤ 256) ∧ k + l.idxOf z = xs.idxOf z ∧ vs = [(Str.ofString "a", .lst (cohL t₀ xs)), (Str.ofString "b", .intP z (· = t₀ + z.toNat))])
    (fun vs H' => False) (ItR_enumL (by walk_at "te") (by walk_at "te") (by with_unfolding_all rfl)) ⟨rfl, xs, 0, rfl, hz, hs, by lia, rfl⟩ (fun _ => rfl) ?_ ?_ ?_
  · (intro x xs vs H' q34_; (refine e02 q34_ fun q68_ q70_ => ?_; try clear q34_; subst q68_; obtain ⟨l, k, hl, hzl, hsl, hk, rfl⟩ := q70_))
    refine ⟨trivial, ?_⟩
    cases l with
    | nil => exact cn hl
    | cons y l =>
      rw [enumFrom, cohL, List.map_cons, List.zipIdx_cons, List.map_cons] at hl
      injection hl with h1 h2
      subst h1 h2
      have hyy := hsl y (.head _)
      by_cases hy : y = z
      · have hq : (y == z) = true := by simpa using hy
        refine .ret (r := .int (k : Nat)) (by walk_at "tas") (by walk_at "ts") ?_ rfl
        have : (y :: l).idxOf z = 0 := by rw [hy]; simp
        rw [this] at hk
        rw [← hk]; rfl
      · have hq : (y == z) = false := by simpa using hy
        refine .go (fl := .next) (vars2 := [(Str.ofString "a", _), (Str.ofString "b", .intP z (· = t₀ + z.toNat))]) (by walk_at "tas") (TS_weak (by walk_at "ts") (fun y v hl => ?_)) rfl ⟨rfl, l, k + 1, rfl, ?_, fun q hq => hsl q (.tail _ hq), ?_, rfl⟩
        · exact lookup_pre hl
        · (refine Or.elim (List.mem_cons.mp hzl) (fun q => ?_) (fun q => ?_))
          · exact absurd q.symm hy
          · exact q
        · have : (y :: l).idxOf z = l.idxOf z + 1 := by
            have hyb : (y == z) = false := by simpa using hy
            rw [List.idxOf_cons, hyb]; rfl
          lia
  · (intro vs H' q35_; (refine e02 q35_ fun q71_ q73_ => ?_; try clear q35_; subst q71_; obtain ⟨l, k, hl, hzl, _, hk, rfl⟩ := q73_))
    cases l with
    | nil => cases hzl
    | cons y l => exact nc hl
  · rintro vs H' hf; exact hf.elim
end
section
structure OkT (x : Str) : Prop where
  len : x.length ≤ 1000
  pl : plainS x
  lo : plainS (Txt.lower x)
structure Hok (ps : List (Str × Str)) : Prop where
  ok : ∀ p ∈ ps, OkT p.1 ∧ OkT p.2
  few : ps.length ≤ 100
theorem Hok.head {ps : List (Str × Str)} (h : Hok ps) : HeadOk ps := ⟨fun p hp => ⟨(h.ok p hp).1.len, (h.ok p hp).2.len⟩, h.few⟩
noncomputable def find1 (ps : List (Str × Str)) (x : Str) : Str := if x.length = 1 then (hget ps x).getD x else x
theorem hget_ok {ps : List (Str × Str)} (h : Hok ps) {x y : Str} (q : hget ps x = some y) : OkT y := by
  unfold hget at q
  (refine e12 (Option.map_eq_some_iff.mp q) fun p hp q103_ => ?_; subst q103_)
  exact (h.ok p (List.mem_of_find?_eq_some hp)).2
theorem find1_ok {ps : List (Str × Str)} (h : Hok ps) {x : Str} (hx : OkT x) : OkT (find1 ps x) := by
  unfold find1
  split
  · cases q : hget ps x with
    | none => exact hx
    | some y => exact hget_ok h q
  · exact hx
noncomputable def find3 (ps : List (Str × Str)) (x : Str) : Str := find1 ps (find1 ps (find1 ps x))
theorem find3_ok {ps : List (Str × Str)} (h : Hok ps) {x : Str} (hx : OkT x) : OkT (find3 ps x) := find1_ok h (find1_ok h (find1_ok h hx))
noncomputable def findN (ps : List (Str × Str)) : Nat → Str → Str
  | 0, x => x
  | n + 1, x => findN ps n (find1 ps x)
theorem find_m {w : World} {i j k : Nat} {ps : List (Str × Str)} {x : Str} (hh : HdrAt H i j k (ps.map pairV)) (ho : Hok ps) (hx : OkT x) : Meets w 8 1 (.ref 346) [.obj i, .str x] H (.str (find3 ps x)) H := by
  refine meets_defC (J := []) (lv := 7) (ps := [Str.ofString "bound", Str.ofString "term"]) (ds := []) (dxs := []) (Nat.le_refl _) (by k_is) (by k_is) rfl .nil (by intro s vs hv X; (refine e21 (len2 hv) fun a b q104_ => ?_; subst q104_); exact BindsTo.of_eq rfl) (by decide) (by rfl) id (fun _ => rfl) (Nat.le_refl _) (by rfl) ?_
  intro c hw hn hR hok hxs
  have hn1 : 1 ≤ c.n := Nat.le_of_eq hn.symm
  rw [List.append_nil, List.append_nil]
  subst hw
  refine TS_for (KH := fun _ => True) (fun xs vs H' => H' = H ∧ ∃ (l : List Nat) (y : Str), xs = l.map (fun (i : Nat) => V.int (i : Int)) ∧ OkT y ∧ findN ps l.length y = find3 ps x ∧ vs = [(Str.ofString "bound", .obj i), (Str.ofString "term", .str y)])
    (fun vs H' => H' = H ∧ vs.lookup (Str.ofString "term") = some (.str (find3 ps x))) (ItR_range (n := 3) (m := 3) (by walk_at "te") (by walk_at "te") rfl (by decide) (by with_unfolding_all rfl)) ⟨rfl, List.range 3, x, rfl, hx, rfl, rfl⟩ (fun _ => rfl) ?_ ?_ ?_
  · (intro y xs vs H' q36_; (refine e02 q36_ fun q74_ q76_ => ?_; try clear q36_; subst q74_; obtain ⟨l, z, hl, hz, hf, rfl⟩ := q76_))
    refine ⟨trivial, .inl ?_⟩
    cases l with
    | nil => exact cn hl
    | cons b l =>
      rw [List.map_cons] at hl
      injection hl with h1 h2
      subst h1 h2
      have hc := ocontains_m (w := c.w) hh ho.head hz.len hz.lo
      have hg := ogetitem_m (w := c.w) hh ho.head hz.len hz.lo
      have hz2 : z.length ≤ 16777216 := by have := hz.len; lia
      have e1 : findN ps (b :: l).length z = findN ps l.length (find1 ps z) := rfl
      rw [e1] at hf
      by_cases h1 : z.length = 1
      · have q1 : ((z.length : Int) == 1) = true := by rw [beq_iff_eq]; lia
        cases hq : hget ps z with
        | none =>
          rw [hq] at hc
          have : find1 ps z = z := by unfold find1; rw [if_pos h1, hq]; rfl
          rw [this] at hf
          refine ⟨_, .next, _, [(Str.ofString "bound", .obj i), (Str.ofString "term", .str z)], by walk_at "tas", TS_weak (by walk_at "ts") (fun y v hl => ?_), rfl, rfl, l, z, rfl, hz, hf, rfl⟩
          exact lookup_pre hl
        | some u =>
          rw [hq] at hc hg
          have : find1 ps z = u := by unfold find1; rw [if_pos h1, hq]; rfl
          rw [this] at hf
          have hg2 : Meets c.w 7 1 (.ref 80) [.obj i, .str z] H' (.str u) H' := hg
          refine ⟨_, .next, _, [(Str.ofString "bound", .obj i), (Str.ofString "term", .str u)], by walk_at "tas", TS_weak (by walk_at "ts") (fun y v hl => ?_), rfl, rfl, l, u, rfl, hget_ok ho hq, hf, rfl⟩
          exact lookup_pre hl
      · have q1 : ((z.length : Int) == 1) = false := by rw [beq_eq_false_iff_ne]; lia
        have : find1 ps z = z := by unfold find1; rw [if_neg h1]
        rw [this] at hf
        refine ⟨_, .next, _, [(Str.ofString "bound", .obj i), (Str.ofString "term", .str z)], by walk_at "tas", TS_weak (by walk_at "ts") (fun y v hl => ?_), rfl, rfl, l, z, rfl, hz, hf, rfl⟩
        exact lookup_pre hl
  · (intro vs H' q37_; (refine e02 q37_ fun q77_ q79_ => ?_; try clear q37_; subst q77_; obtain ⟨l, y, hl, hy, hf, rfl⟩ := q79_))
    cases l with
    | cons z l => exact nc hl
    | nil => exact ⟨trivial, .inl ⟨_, _, TS_nil, rfl, by rw [← hf]; rfl⟩⟩
  · (intro vs H' q38_; (refine e02 q38_ fun q105_ hv => ?_; try clear q38_; subst q105_))
    exact TS_ret (TS1_return (TE_var hv (by decide)))
end
section
theorem setlast (H : List MO) (a b d : MO) : (H ++ [a] ++ [b]).set H.length d = H ++ [d, b] := by
  rw [List.append_assoc, List.set_append_right _ _ (Nat.le_refl _), Nat.sub_self]; rfl
theorem setlast3 (H : List MO) (a b d f : MO) : (H ++ [a] ++ [b] ++ [f]).set H.length d = H ++ [d, b, f] := by
  rw [List.append_assoc, List.append_assoc, List.set_append_right _ _ (Nat.le_refl _), Nat.sub_self]; rfl
theorem get_at {a : MO} (H J : List MO) (n : Nat) (h : J[n]? = some a) : (H ++ J)[H.length + n]? = some a := by
  rw [List.getElem?_append_right (Nat.le_add_right _ _), Nat.add_sub_cancel_left]; exact h
theorem make_1 {c : Amb} {e : Sc} {vars : Vars} {k : Nat} {ps : List (Str × Str)} (hk : H[k]? = some (.list (ps.map pairV))) (hp : allPlain ps) (hn : 1 ≤ c.n) (hr : Room c 4) :
    PC c e vars H (.ref 286) [.obj k] (.obj (H.length + 1)) (H ++ [.idict (some (.obj k)), .inst H.length]) := by
  have h := init_m1 (w := c.w) (H := H ++ [.idict none] ++ [.inst H.length]) (i := H.length + 1) (j := H.length) (k := k) (by rw [List.append_assoc]; exact get_at _ _ 1 rfl) (by rw [List.append_assoc]; exact get_at _ _ 0 rfl) (get_app (get_app hk)) hp
  rw [setlast] at h
  refine PC_make ?_ ?_ ?_ h hn hr (by simp)
  · k_is
  · k_is
  · k_is
theorem make_0 {c : Amb} {e : Sc} {vars : Vars} (hn : 1 ≤ c.n) (hr : Room c 4) :
    PC c e vars H (.ref 286) [] (.obj (H.length + 1)) (H ++ [.idict (some (.obj (H.length + 2))), .inst H.length, .list []]) := by
  have h := init_m0 (w := c.w) (H := H ++ [.idict none] ++ [.inst H.length]) (i := H.length + 1) (j := H.length) (by rw [List.append_assoc]; exact get_at _ _ 1 rfl) (by rw [List.append_assoc]; exact get_at _ _ 0 rfl)
  have e1 : (H ++ [MO.idict none] ++ [MO.inst H.length]).length = H.length + 2 := by simp
  rw [setlast3, e1] at h
  refine PC_make ?_ ?_ ?_ h hn hr (by simp)
  · k_is
  · k_is
  · k_is
theorem hdr_1 {k : Nat} {ps : List (Str × Str)} (hk : H[k]? = some (.list (ps.map pairV))) : HdrAt (H ++ [.idict (some (.obj k)), .inst H.length]) (H.length + 1) H.length k (ps.map pairV) :=
  ⟨get_at _ _ 1 rfl, get_at _ _ 0 rfl, get_app hk⟩
theorem hdr_0 : HdrAt (H ++ [.idict (some (.obj (H.length + 2))), .inst H.length, .list []]) (H.length + 1) H.length (H.length + 2) (([] : List (Str × Str)).map pairV) :=
  ⟨get_at _ _ 1 rfl, get_at _ _ 0 rfl, get_at _ _ 2 rfl⟩
theorem plain_empty : plainS (Str.ofString "") := ⟨by decide +kernel, by decide +kernel⟩
theorem hget_one (x y z : Str) : (hget [(x, y)] z).isSome = (Txt.lower x == Txt.lower z) := by
  unfold hget
  cases h : (Txt.lower x == Txt.lower z) with
  | true => rw [List.find?_cons_of_pos (p := fun p : Str × Str => Txt.lower p.1 == Txt.lower z) h]; rfl
  | false => rw [List.find?_cons_of_neg (p := fun p : Str × Str => Txt.lower p.1 == Txt.lower z) (by rw [h]; simp)]; rfl
theorem same_m {w : World} {x y : Str} (hx : OkT x) (hy : OkT y) : Meets w 8 1 (.ref 353) [.str x, .str y] H (.bool (Txt.lower x == Txt.lower y)) H := by
  refine meets_defC (J := [.list [pairV (x, Str.ofString "")], .idict (some (.obj H.length)), .inst (H.length + 1)]) (lv := 7) (ps := [Str.ofString "one", Str.ofString "two"]) (ds := []) (dxs := []) (Nat.le_refl _) (by k_is) (by k_is) rfl .nil (by intro s vs hv X; (refine e21 (len2 hv) fun a b q106_ => ?_; subst q106_); exact BindsTo.of_eq rfl) (by decide) (by rfl) id (fun _ => rfl) (Nat.le_refl _) (by rfl) ?_
  intro c hw hn hR hok hxs
  have hn1 : 1 ≤ c.n := Nat.le_of_eq hn.symm
  rw [List.append_nil]
  subst hw
  have hk : (H ++ [MO.list [pairV (x, Str.ofString "")]])[H.length]? = some (.list ([(x, Str.ofString "")].map pairV)) := get_last
  have hm : ∀ (e : Sc) (vars : Vars), PC (c.atC (Str.ofString "_law_same") _) e vars (H ++ [MO.list [pairV (x, Str.ofString "")]]) (.ref 286) [.obj H.length] _ _ := fun e vars => make_1 hk (fun p hp => by rw [List.mem_singleton.mp hp]; exact ⟨hx.pl, plain_empty⟩) hn1 (room_of hR (by rfl))
  have hd := hdr_1 hk
  have ho : HeadOk [(x, Str.ofString "")] := ⟨fun p hp => by rw [List.mem_singleton.mp hp]; exact ⟨hx.len, by show (Str.ofString "").length ≤ 1000; decide⟩, by simp⟩
  have hc := ocontains_m (w := c.w) (x := y) hd ho hy.len hy.lo
  rw [hget_one] at hc
  have eH : H ++ [.list [pairV (x, Str.ofString "")], .idict (some (.obj H.length)), .inst (H.length + 1)] = (H ++ [MO.list [pairV (x, Str.ofString "")]]) ++ [.idict (some (.obj H.length)), .inst (H ++ [MO.list [pairV (x, Str.ofString "")]]).length] := by
    rw [List.append_assoc]; simp
  rw [eH]
  refine' TS_ret (TS1_return (TE_call (f := .ref 66) ?a ?b ?cc ?d ?he ?hp))
  case he => with_unfolding_all rfl
  case hp => with_unfolding_all rfl
  case a => walk_at "te"
  case b => walk_at "kept"
  case cc =>
    refine' TEs_cons (hs := ?m1) ?a1 ?b1
    case m1 => with_unfolding_all rfl
    case a1 =>
      refine' TE_call (f := .ref 286) ?a2 ?b2 ?cc2 ?d2 ?he2 ?hp2
      case he2 => with_unfolding_all rfl
      case hp2 => with_unfolding_all rfl
      case a2 => walk_at "te"
      case b2 => walk_at "kept"
      case cc2 =>
        refine' TEs_cons (hs := ?m3) ?a3 ?b3
        case m3 => with_unfolding_all rfl
        case a3 =>
          refine' TE_listM ?a4 ?b4
          case a4 => walk_at "tes"
          case b4 => rw [sizeLine_eq]; simp
        case b3 => walk_at "tes"
      case d2 => exact hm _ _
    case b1 => walk_at "tes"
  case d => exact PC_m hc hn1 hR (by rfl)
end
section
local macro_rules | `(tactic| walk_at "mth") => `(tactic| walk_at "!Mth_list a %F.slot_list_pop %F.type_list_pop ; a:as|Mth_list a %F.slot_list_extend %F.type_list_extend ; a:as")
local macro_rules | `(tactic| walk_at "pc") => `(tactic| walk_at "!PC_pop q:as l:as|PC_extend q:as l:as")
local macro_rules | `(tactic| walk_at "psl") => `(tactic| walk_at "!PSl_lst1 a:z28 b:z29 d:z2")
local macro_rules | `(tactic| walk_at "po") => `(tactic| walk_at "!PO_neNil0 a:as u:room|PO_neNil1 a:as b:as u:room")
inductive Kd
  | pair (l r : Str)
  | name (x : Str)
  | port (n : Int)
noncomputable def Kd.v : Kd → V
  | .pair l r => .lst [.str (Str.ofString "pair"), .str l, .str r]
  | .name x => .lst [.str (Str.ofString "name"), .str x]
  | .port n => .lst [.str (Str.ofString "port"), .tup [.str (Str.ofString "h"), .int n]]
noncomputable def Rd (x : Str) (k : Kd) : Prop := ∀ (w : World) (H : List MO), Meets w 6 1 (.ref 339) [.str x] H k.v H
inductive Wit (ps : List (Str × Str)) (nm : Str) : Nat → List Str → Bool → List Str → Prop
  | nil : Wit ps nm 0 [] false []
  | pair {n : Nat} {td td' : List Str} {x l r : Str} {b : Bool} : OkT x → OkT l → OkT r → Rd (find3 ps x) (.pair l r) → td.length + 2 ≤ 500 → Wit ps nm n (td ++ [l, r]) b td' → Wit ps nm (n + 1) (td ++ [x]) b td'
  | port {n : Nat} {td td' : List Str} {x : Str} {m : Int} {b : Bool} : OkT x → Rd (find3 ps x) (.port m) → td.length + 1 ≤ 500 → Wit ps nm n td b td' → Wit ps nm (n + 1) (td ++ [x]) b td'
  | hit {td : List Str} {x y : Str} : OkT x → OkT y → Rd (find3 ps x) (.name y) → td.length + 1 ≤ 500 → (∀ z ∈ td, OkT z) → (Txt.lower nm == Txt.lower y) = true → Wit ps nm 1 (td ++ [x]) true td
  | miss {n : Nat} {td td' : List Str} {x y : Str} {b : Bool} : OkT x → OkT y → Rd (find3 ps x) (.name y) → td.length + 1 ≤ 500 → (Txt.lower nm == Txt.lower y) = false → Wit ps nm n td b td' → Wit ps nm (n + 1) (td ++ [x]) b td'
theorem Wit.ok {ps : List (Str × Str)} {nm : Str} {n : Nat} {td td' : List Str} {b : Bool} (h : Wit ps nm n td b td') : ∀ z ∈ td, OkT z := by
  induction h with
  | nil => intro z hz; cases hz
  | pair h1 _ _ _ _ _ ih => intro z hz; (refine Or.elim (List.mem_append.mp hz) (fun q => ?_) (fun q => ?_))
                            · exact ih z (List.mem_append_left _ q)
                            · rw [List.mem_singleton.mp q]; exact h1
  | port h1 _ _ _ ih => intro z hz; (refine Or.elim (List.mem_append.mp hz) (fun q => ?_) (fun q => ?_))
                        · exact ih z q
                        · rw [List.mem_singleton.mp q]; exact h1
  | hit h1 _ _ _ h5 _ => intro z hz; (refine Or.elim (List.mem_append.mp hz) (fun q => ?_) (fun q => ?_))
                         · exact h5 z q
                         · rw [List.mem_singleton.mp q]; exact h1
  | miss h1 _ _ _ _ _ ih => intro z hz; (refine Or.elim (List.mem_append.mp hz) (fun q => ?_) (fun q => ?_))
                            · exact ih z q
                            · rw [List.mem_singleton.mp q]; exact h1
theorem kq_str {x : Str} (h : OkT x) : kqdOk 7 (V.str x).D0 = true := plain_ok h.pl.1
theorem kq_strs {td : List Str} {x : Str} (h : ∀ z ∈ td ++ [x], OkT z) : ∀ y ∈ td.map V.str ++ [V.str x], kqdOk 7 y.D0 = true := by
  rw [show td.map V.str ++ [V.str x] = (td ++ [x]).map V.str by simp]
  intro y hy
  (refine e12 (List.mem_map.mp hy) fun z hz q107_ => ?_; subst q107_)
  exact kq_str (h z hz)
theorem within_m {w : World} {i j k n : Nat} {ps : List (Str × Str)} {nm x : Str} {b : Bool} {td' : List Str} (hh : HdrAt H i j k (ps.map pairV)) (ho : Hok ps) (hnm : OkT nm) (hW : Wit ps nm n [x] b td') :
    Meets w 9 1 (.ref 360) [.obj i, .str nm, .str x] H (.bool b) H := by
  refine meets_defC (J := [.list (td'.map V.str)]) (lv := 8) (ps := [Str.ofString "bound", Str.ofString "name", Str.ofString "term"]) (ds := []) (dxs := []) (Nat.le_refl _) (by k_is) (by k_is) rfl .nil (by intro s vs hv X; (refine e31 (len3 hv) fun a b d q108_ => ?_; subst q108_); exact BindsTo.of_eq rfl) (by decide) (by rfl) id (fun _ => rfl) (Nat.le_refl _) (by rfl) ?_
  intro c hw hn hR hok hxs
  have hn1 : 1 ≤ c.n := Nat.le_of_eq hn.symm
  rw [List.append_nil]
  subst hw
  refine TS_next (TS1_assign (v := .obj H.length) (H1 := H ++ [.list [.str x]]) ?_ (by walk_at "store") (by with_unfolding_all rfl)) ?_
  · refine TE_listM ?_ ?_
    · walk_at "tes"
    · rw [sizeLine_eq]; simp
  have eN : ∀ (a b : List V), (H ++ [MO.list a]).set H.length (.list b) = H ++ [.list b] := fun a b => by rw [List.set_append_right _ _ (Nat.le_refl _), Nat.sub_self]; rfl
  have gN : ∀ (a : List V), (H ++ [MO.list a])[H.length]? = some (.list a) := fun a => get_last
  have gS : ∀ (a b : List V), ((H ++ [MO.list a]).set H.length (.list b))[H.length]? = some (.list b) := fun a b => by rw [eN]; exact gN b
  refine TS_whileI (fun n vs H' => ∃ td, Wit ps nm n td b td' ∧ H' = H ++ [.list (td.map V.str)] ∧ vs = [(Str.ofString "bound", .obj i), (Str.ofString "name", .str nm), (Str.ofString "term", .str x), (Str.ofString "todo", .obj H.length)])
    (fun vs H' => b = false ∧ H' = H ++ [.list (td'.map V.str)]) n ⟨[x], hW, rfl, rfl⟩ ?_ ?_
  · (intro n vs H' q39_; (refine e13 q39_ fun td hT q109_ q110_ => ?_; try clear q39_; subst q109_; subst q110_))
    have hok' := hT.ok
    cases hT with
    | nil =>
      have g0 := gN []
      exact .stop (by walk_at "tb") ⟨rfl, rfl⟩
    | pair h1 h2 h3 h4 h5 h6 =>
      rename_i n td x l r
      have g0 := gN (td.map V.str ++ [V.str x])
      have g1 := gS (td.map V.str ++ [V.str x]) (td.map V.str)
      have hq := kq_strs hok'
      have hl0 : (td.map V.str).length + 1 ≤ sizeLine := by rw [sizeLine_eq, List.length_map]; lia
      have hl1 : (td.map V.str).length + (List.drop 1 [V.str (Str.ofString "pair"), V.str l, V.str r]).length ≤ 1000 := by rw [List.length_map]; simp; lia
      have hf : Meets c.w 8 1 (.ref 346) [.obj i, .str x] ((H ++ [MO.list (td.map V.str ++ [V.str x])]).set H.length (.list (td.map V.str))) (.str (find3 ps x)) ((H ++ [MO.list (td.map V.str ++ [V.str x])]).set H.length (.list (td.map V.str))) := by rw [eN]; exact find_m hh.app ho h1
      have hr : Meets c.w 6 1 (.ref 339) [.str (find3 ps x)] ((H ++ [MO.list (td.map V.str ++ [V.str x])]).set H.length (.list (td.map V.str))) (.lst [.str (Str.ofString "pair"), .str l, .str r]) ((H ++ [MO.list (td.map V.str ++ [V.str x])]).set H.length (.list (td.map V.str))) := h4 _ _
      rw [List.map_append, List.map_cons, List.map_nil]
      refine .go (fl := .next) (vars1 := [(Str.ofString "bound", .obj i), (Str.ofString "name", .str nm), (Str.ofString "term", .str _), (Str.ofString "todo", .obj H.length)]) (m := n) (by walk_at "tb") (TS_weak (by walk_at "ts") (fun y v hl => ?_)) rfl (Nat.lt_succ_self _) ⟨td ++ [l, r], h6, ?_, rfl⟩
      · exact lookup_pre hl
      · rw [eN, eN]; simp
    | port h1 h2 h3 h4 =>
      rename_i n td x m
      have hr : Meets c.w 6 1 (.ref 339) [.str (find3 ps x)] ((H ++ [MO.list (td.map V.str ++ [V.str x])]).set H.length (.list (td.map V.str))) (.lst [.str (Str.ofString "port"), .tup [.str (Str.ofString "h"), .int m]]) ((H ++ [MO.list (td.map V.str ++ [V.str x])]).set H.length (.list (td.map V.str))) := h2 _ _
      have g0 := gN (td.map V.str ++ [V.str x])
      have g1 := gS (td.map V.str ++ [V.str x]) (td.map V.str)
      have hq := kq_strs hok'
      have hl0 : (td.map V.str).length + 1 ≤ sizeLine := by rw [sizeLine_eq, List.length_map]; lia
      have hf : Meets c.w 8 1 (.ref 346) [.obj i, .str x] ((H ++ [MO.list (td.map V.str ++ [V.str x])]).set H.length (.list (td.map V.str))) (.str (find3 ps x)) ((H ++ [MO.list (td.map V.str ++ [V.str x])]).set H.length (.list (td.map V.str))) := by rw [eN]; exact find_m hh.app ho h1
      rw [List.map_append, List.map_cons, List.map_nil]
      refine .go (fl := .next) (vars1 := [(Str.ofString "bound", .obj i), (Str.ofString "name", .str nm), (Str.ofString "term", .str _), (Str.ofString "todo", .obj H.length)]) (m := n) (by walk_at "tb") (TS_weak (by walk_at "ts") (fun y v hl => ?_)) rfl (Nat.lt_succ_self _) ⟨td, h4, ?_, rfl⟩
      · exact lookup_pre hl
      · rw [eN]
    | hit h1 h2 h3 h4 h5 h6 =>
      rename_i x y
      have hs : Meets c.w 8 1 (.ref 353) [.str nm, .str y] ((H ++ [MO.list (td'.map V.str ++ [V.str x])]).set H.length (.list (td'.map V.str))) (.bool (Txt.lower nm == Txt.lower y)) ((H ++ [MO.list (td'.map V.str ++ [V.str x])]).set H.length (.list (td'.map V.str))) := same_m hnm h2
      have hr : Meets c.w 6 1 (.ref 339) [.str (find3 ps x)] ((H ++ [MO.list (td'.map V.str ++ [V.str x])]).set H.length (.list (td'.map V.str))) (.lst [.str (Str.ofString "name"), .str y]) ((H ++ [MO.list (td'.map V.str ++ [V.str x])]).set H.length (.list (td'.map V.str))) := h3 _ _
      have g0 := gN (td'.map V.str ++ [V.str x])
      have g1 := gS (td'.map V.str ++ [V.str x]) (td'.map V.str)
      have hq := kq_strs hok'
      have hl0 : (td'.map V.str).length + 1 ≤ sizeLine := by rw [sizeLine_eq, List.length_map]; lia
      have hf : Meets c.w 8 1 (.ref 346) [.obj i, .str x] ((H ++ [MO.list (td'.map V.str ++ [V.str x])]).set H.length (.list (td'.map V.str))) (.str (find3 ps x)) ((H ++ [MO.list (td'.map V.str ++ [V.str x])]).set H.length (.list (td'.map V.str))) := by rw [eN]; exact find_m hh.app ho h1
      rw [List.map_append, List.map_cons, List.map_nil]
      have eF : H ++ [MO.list (td'.map V.str)] = (H ++ [MO.list (td'.map V.str ++ [V.str x])]).set H.length (.list (td'.map V.str)) := (eN _ _).symm
      rw [eF]
      exact .ret (x := .bool true) (by walk_at "tb") (by walk_at "ts") rfl rfl
    | miss h1 h2 h3 h4 h5 h6 =>
      rename_i n td x y
      have hs : Meets c.w 8 1 (.ref 353) [.str nm, .str y] ((H ++ [MO.list (td.map V.str ++ [V.str x])]).set H.length (.list (td.map V.str))) (.bool (Txt.lower nm == Txt.lower y)) ((H ++ [MO.list (td.map V.str ++ [V.str x])]).set H.length (.list (td.map V.str))) := same_m hnm h2
      have hr : Meets c.w 6 1 (.ref 339) [.str (find3 ps x)] ((H ++ [MO.list (td.map V.str ++ [V.str x])]).set H.length (.list (td.map V.str))) (.lst [.str (Str.ofString "name"), .str y]) ((H ++ [MO.list (td.map V.str ++ [V.str x])]).set H.length (.list (td.map V.str))) := h3 _ _
      have g0 := gN (td.map V.str ++ [V.str x])
      have g1 := gS (td.map V.str ++ [V.str x]) (td.map V.str)
      have hq := kq_strs hok'
      have hl0 : (td.map V.str).length + 1 ≤ sizeLine := by rw [sizeLine_eq, List.length_map]; lia
      have hf : Meets c.w 8 1 (.ref 346) [.obj i, .str x] ((H ++ [MO.list (td.map V.str ++ [V.str x])]).set H.length (.list (td.map V.str))) (.str (find3 ps x)) ((H ++ [MO.list (td.map V.str ++ [V.str x])]).set H.length (.list (td.map V.str))) := by rw [eN]; exact find_m hh.app ho h1
      rw [List.map_append, List.map_cons, List.map_nil]
      refine .go (fl := .next) (vars1 := [(Str.ofString "bound", .obj i), (Str.ofString "name", .str nm), (Str.ofString "term", .str _), (Str.ofString "todo", .obj H.length)]) (m := n) (by walk_at "tb") (TS_weak (by walk_at "ts") (fun y v hl => ?_)) rfl (Nat.lt_succ_self _) ⟨td, h6, ?_, rfl⟩
      · exact lookup_pre hl
      · rw [eN]
  · (intro vs H' q40_; (refine e02 q40_ fun q111_ q112_ => ?_; try clear q40_; subst q111_; subst q112_))
    exact TS_ret (TS1_return TE_bool)
end
section
local macro_rules | `(tactic| walk_at "mth") => `(tactic| walk_at "!Mth_list a %F.slot_list_pop %F.type_list_pop ; a:as|Mth_list a %F.slot_list_extend %F.type_list_extend ; a:as")
local macro_rules | `(tactic| walk_at "pc") => `(tactic| walk_at "!PC_pop q:as l:as|PC_extend q:as l:as")
local macro_rules | `(tactic| walk_at "po") => `(tactic| walk_at "!PO_neNil0 a:as u:room|PO_neNil1 a:as b:as u:room")
noncomputable def Kd.tag : Kd → Str
  | .pair _ _ => Str.ofString "pair"
  | .name _ => Str.ofString "name"
  | .port _ => Str.ofString "port"
noncomputable def Kd.rest : Kd → List V
  | .pair l r => [.str l, .str r]
  | .name x => [.str x]
  | .port n => [.tup [.str (Str.ofString "h"), .int n]]
theorem Kd.v_eq (k : Kd) : k.v = .lst (.str k.tag :: k.rest) := by cases k <;> rfl
noncomputable def Kd.isName : Kd → Bool
  | .name _ => true
  | _ => false
inductive Out
  | stop (e : Str)
  | next (ps : List (Str × Str)) (td : List (Str × Str))
inductive Act0 (ps : List (Str × Str)) : Str → Str → Kd → Kd → Out → Prop
  | same {x y u v : Str} : (Txt.lower x == Txt.lower y) = true → Act0 ps x y (.name u) (.name v) (.next ps [])
  | ring {x y u : Str} {ky : Kd} {n : Nat} {td : List Str} : (ky.isName = true → (Txt.lower x == Txt.lower y) = false) → Wit ps x n [y] true td → Act0 ps x y (.name u) ky (.stop (Str.ofString "ring"))
  | bind {x y u : Str} {ky : Kd} {n : Nat} {td : List Str} : (ky.isName = true → (Txt.lower x == Txt.lower y) = false) → Wit ps x n [y] false td → Hok (hdel ps x ++ [(x, y)]) → Act0 ps x y (.name u) ky (.next (hdel ps x ++ [(x, y)]) [])
  | pairs {x y l1 r1 l2 r2 : Str} : OkT l1 → OkT r1 → OkT l2 → OkT r2 → Act0 ps x y (.pair l1 r1) (.pair l2 r2) (.next ps [(l1, l2), (r1, r2)])
  | clash {x y : Str} {kx ky : Kd} : kx.isName = false → ky.isName = false → ¬ (∃ l r l' r', kx = .pair l r ∧ ky = .pair l' r') → kx ≠ ky → (∀ l r, kx = .pair l r → OkT l ∧ OkT r) → (∀ l r, ky = .pair l r → OkT l ∧ OkT r) → Act0 ps x y kx ky (.stop (Str.ofString "clash"))
  | ports {x y : Str} {n : Int} : Act0 ps x y (.port n) (.port n) (.next ps [])
inductive Act (ps : List (Str × Str)) : Str → Str → Kd → Kd → Out → Prop
  | as {x y : Str} {kx ky : Kd} {o : Out} : (kx.isName = true ∨ ky.isName = false) → Act0 ps x y kx ky o → Act ps x y kx ky o
  | swap {x y : Str} {kx ky : Kd} {o : Out} : kx.isName = false → ky.isName = true → Act0 ps y x ky kx o → Act ps x y kx ky o
inductive Sol : List (Str × Str) → Nat → List (Str × Str) → Str → List (Str × Str) → List (Str × Str) → Prop
  | nil {ps : List (Str × Str)} : Sol ps 0 [] (Str.ofString "one") ps []
  | stop {ps td : List (Str × Str)} {a b e : Str} {kx ky : Kd} : Hok ps → (∀ p ∈ td ++ [(a, b)], OkT p.1 ∧ OkT p.2) → td.length + 2 ≤ 500 → Rd (find3 ps a) kx → Rd (find3 ps b) ky → Act ps (find3 ps a) (find3 ps b) kx ky (.stop e) → Sol ps 1 (td ++ [(a, b)]) e ps td
  | go {ps ps1 ps' td add td' : List (Str × Str)} {a b e : Str} {kx ky : Kd} {n : Nat} : Hok ps → (∀ p ∈ td ++ [(a, b)], OkT p.1 ∧ OkT p.2) → td.length + 2 ≤ 500 → Rd (find3 ps a) kx → Rd (find3 ps b) ky → Act ps (find3 ps a) (find3 ps b) kx ky (.next ps1 add) → Sol ps1 n (td ++ add) e ps' td' → Sol ps (n + 1) (td ++ [(a, b)]) e ps' td'
theorem Room.fm {c : Amb} {lv : Nat} {m : Option (Str → Option Value)} (r : Room c lv) : Room { c with fm := m } lv := ⟨r.dp, r.un⟩
theorem kd_kq {k : Kd} (h : k.isName = false) (hk : ∀ l r, k = .pair l r → OkT l ∧ OkT r) : kqdOk 8 ((V.lst (.str k.tag :: k.rest)).D H) = true := by
  cases k with
  | name x => exact tf h
  | pair l r =>
    have a1 : PyData.strOk l = true := plain_ok (hk l r rfl).1.pl.1
    have a2 : PyData.strOk r = true := plain_ok (hk l r rfl).2.pl.1
    have a3 : PyData.strOk (Str.ofString "pair") = true := by decide +kernel
    show kqdOk 8 (.list [.str (Str.ofString "pair"), .str l, .str r]) = true
    simp [kqdOk, a1, a2, a3]
  | port n =>
    have a3 : PyData.strOk (Str.ofString "port") = true := by decide +kernel
    have a4 : PyData.strOk (Str.ofString "h") = true := by decide +kernel
    show kqdOk 8 (.list [.str (Str.ofString "port"), .tuple [.str (Str.ofString "h"), .int n]]) = true
    simp [kqdOk, a3, a4]
theorem kd_inj {k k' : Kd} (h : (V.lst (.str k.tag :: k.rest)).D H = (V.lst (.str k'.tag :: k'.rest)).D H) : k = k' := by
  have n1 : Str.ofString "pair" ≠ Str.ofString "name" := by decide
  have n2 : Str.ofString "pair" ≠ Str.ofString "port" := by decide
  have n3 : Str.ofString "name" ≠ Str.ofString "port" := by decide
  cases k <;> cases k' <;> simp [V.D, V.D0, Vs.D0, Kd.tag, Kd.rest, n1, n2, n3, n1.symm, n2.symm, n3.symm] at h ⊢ <;> exact h
theorem set_self {k : Nat} {a : MO} (h : H[k]? = some a) : H.set k a = H := by
  apply List.ext_getElem?
  intro i
  rw [List.getElem?_set]
  split
  · rename_i q; subst q
    rw [if_pos (lt_of_get h)]; exact h.symm
  · rfl
theorem kq_pair {p : Str × Str} (h : OkT p.1 ∧ OkT p.2) : kqdOk 7 (pairV p).D0 = true := by
  have h1 := kq_str h.1
  have h2 := kq_str h.2
  have a1 : PyData.strOk p.1 = true := plain_ok h.1.pl.1
  have a2 : PyData.strOk p.2 = true := plain_ok h.2.pl.1
  show kqdOk 7 (.tuple [.str p.1, .str p.2]) = true
  simp [kqdOk, a1, a2]
theorem kq_pairs {td : List (Str × Str)} {a b : Str} (h : ∀ z ∈ td ++ [(a, b)], OkT z.1 ∧ OkT z.2) : ∀ y ∈ td.map pairV ++ [.tup [.str a, .str b]], kqdOk 7 y.D0 = true := by
  rw [show td.map pairV ++ [.tup [.str a, .str b]] = (td ++ [(a, b)]).map pairV by simp]
  intro y hy
  (refine e12 (List.mem_map.mp hy) fun z hz q113_ => ?_; subst q113_)
  exact kq_pair (h z hz)
noncomputable abbrev flO : Out → Fl
  | .stop e => .ret (.str e)
  | .next _ _ => .next
noncomputable abbrev psO (ps : List (Str × Str)) : Out → List (Str × Str)
  | .stop _ => ps
  | .next p _ => p
noncomputable abbrev tdO (td : List (Str × Str)) : Out → List (Str × Str)
  | .stop _ => td
  | .next _ a => td ++ a
noncomputable abbrev varsO (vs : Vars) : Out → Vars
  | .stop _ => []
  | .next _ _ => vs
theorem tag_name {k : Kd} : (k.tag == Str.ofString "name") = k.isName := by cases k <;> rfl
theorem tag_nname {k : Kd} : (k.tag != Str.ofString "name") = !k.isName := by cases k <;> rfl
noncomputable def soV (i : Nat) (x0 y0 : Str) (n : Nat) (more : Vars) : Vars := (Str.ofString "bound", .obj i) :: (Str.ofString "first", .str x0) :: (Str.ofString "second", .str y0) :: (Str.ofString "todo", .obj n) :: more
noncomputable def soH (H : List MO) (k : Nat) (ps : List (Str × Str)) (l : List V) : List MO := H.set k (.list (ps.map pairV)) ++ [.list l]
theorem soH_set {k : Nat} {ps : List (Str × Str)} {l b : List V} : (soH H k ps l).set H.length (.list b) = soH H k ps b := by unfold soH; rw [List.set_append_right _ _ (by rw [List.length_set]; exact Nat.le_refl _), List.length_set, Nat.sub_self]; rfl
theorem soH_get {k : Nat} {ps : List (Str × Str)} {a : List V} : (soH H k ps a)[H.length]? = some (.list a) := by have := get_last (H := H.set k (.list (ps.map pairV))) (a := MO.list a); rwa [List.length_set] at this
inductive WStepR {σ : Type} (c : Amb) (e : Sc) (test : Expr) (body : List Stmt) (VS : σ → Vars) (HS : σ → List MO) (I : Nat → σ → Prop) (Done : σ → Prop) (f : Fl) (vars' : Vars) (H' : List MO) (n : Nat) (x : σ) : Prop
  | stop : TB c e (VS x) (HS x) (isTrue test e.env (eval test e.env)) false (HS x) → Done x → WStepR c e test body VS HS I Done f vars' H' n x
  | any (fl : Fl) (vars1 : Vars) (H2 : List MO) : TB c e (VS x) (HS x) (isTrue test e.env (eval test e.env)) true (HS x) → TS c e (VS x) (HS x) body fl vars1 H2 →
    ((fl.goes = true ∧ ∃ m, m < n ∧ ∃ y, I m y ∧ vars1 = VS y ∧ H2 = HS y) ∨ ∃ r, fl = .ret r ∧ vars1 = [] ∧ H2 = H' ∧ f = .ret r ∧ vars' = []) → WStepR c e test body VS HS I Done f vars' H' n x
theorem TS_whileR {σ : Type} {VS : σ → Vars} {HS : σ → List MO} {test : Expr} {body rest : List Stmt} {pos : Pos} {f : Fl} {H' : List MO} (I : Nat → σ → Prop) (Done : σ → Prop) (n : Nat) {x0 : σ} (hI : I n x0) (hH : H = HS x0)
    (step : ∀ n x, I n x → WStepR c e test body VS HS I Done f vars' H' n x) (hdone : ∀ x, Done x → TS c e (VS x) (HS x) rest f vars' H') : TS c e (VS x0) H (.While test body [] pos :: rest) f vars' H' := by
  subst hH
  refine TS_while' (fun n vs H => ∃ x, I n x ∧ vs = VS x ∧ H = HS x) (fun vs H => ∃ x, Done x ∧ vs = VS x ∧ H = HS x) n ⟨x0, hI, rfl, rfl⟩ ?_ ?_
  · intro n vs H h
    refine e13 h fun x hx q1 q2 => ?_
    subst q1; subst q2
    cases step n x hx with
    | stop a b => exact .inl ⟨_, a, x, b, rfl, rfl⟩
    | any fl v1 h2 a b d =>
      refine .inr ⟨_, fl, v1, h2, a, b, d.imp (fun d => ⟨d.1, ?_⟩) id⟩
      exact e12 d.2 fun m hm q => ⟨m, hm, q⟩
  · intro vs H h
    refine e13 h fun x hx q1 q2 => ?_
    subst q1; subst q2
    exact hdone x hx
inductive SolO (ps : List (Str × Str)) (n : Nat) (td : List (Str × Str)) (en : Str) (ps' td' : List (Str × Str)) : Prop
  | stop : td = [] → en = Str.ofString "one" → ps' = ps → td' = [] → SolO ps n td en ps' td'
  | go (td0 : List (Str × Str)) (a b : Str) (kx ky : Kd) (o : Out) : td = td0 ++ [(a, b)] → Hok ps → (∀ p ∈ td0 ++ [(a, b)], OkT p.1 ∧ OkT p.2) → td0.length + 2 ≤ 500 → Rd (find3 ps a) kx → Rd (find3 ps b) ky → Act ps (find3 ps a) (find3 ps b) kx ky o →
    ((o = .stop en ∧ ps' = ps ∧ td' = td0) ∨ ∃ ps1 add m, o = .next ps1 add ∧ m < n ∧ Sol ps1 m (td0 ++ add) en ps' td') → SolO ps n td en ps' td'
theorem Sol.openE {ps td ps' td' : List (Str × Str)} {n : Nat} {en : Str} (h : Sol ps n td en ps' td') : SolO ps n td en ps' td' := by
  cases h with
  | nil => exact .stop rfl rfl rfl rfl
  | stop h1 h2 h3 h4 h5 h6 => exact .go _ _ _ _ _ _ rfl h1 h2 h3 h4 h5 h6 (.inl ⟨rfl, rfl, rfl⟩)
  | go h1 h2 h3 h4 h5 h6 h7 => exact .go _ _ _ _ _ _ rfl h1 h2 h3 h4 h5 h6 (.inr ⟨_, _, _, rfl, Nat.lt_succ_self _, h7⟩)
inductive ActO (ps : List (Str × Str)) (x y : Str) (kx ky : Kd) (o : Out) : Prop
  | mk (x' y' : Str) (kx' ky' : Kd) : Act0 ps x' y' kx' ky' o → ((x' = x ∧ y' = y ∧ kx' = kx ∧ ky' = ky ∧ (kx.isName = true ∨ ky.isName = false)) ∨ (x' = y ∧ y' = x ∧ kx' = ky ∧ ky' = kx ∧ kx.isName = false ∧ ky.isName = true)) → ActO ps x y kx ky o
theorem Act.openE {ps : List (Str × Str)} {x y : Str} {kx ky : Kd} {o : Out} (h : Act ps x y kx ky o) : ActO ps x y kx ky o := by
  cases h with
  | as h1 h2 => exact .mk _ _ _ _ h2 (.inl ⟨rfl, rfl, rfl, rfl, h1⟩)
  | swap h1 h2 h3 => exact .mk _ _ _ _ h3 (.inr ⟨rfl, rfl, rfl, rfl, h1, h2⟩)
theorem solve_m {w : World} {i j k n : Nat} {ps ps' td' : List (Str × Str)} {x0 y0 en : Str} (hh : HdrAt H i j k (ps.map pairV)) (hS : Sol ps n [(x0, y0)] en ps' td') :
    Meets w 10 1 (.ref 365) [.obj i, .str x0, .str y0] H (.str en) (H.set k (.list (ps'.map pairV))) := by
  refine meets_defC (J := [.list (td'.map pairV)]) (lv := 9) (ps := [Str.ofString "bound", Str.ofString "first", Str.ofString "second"]) (ds := []) (dxs := []) (Nat.le_refl _) (by k_is) (by k_is) rfl .nil (by intro s vs hv X; (refine e31 (len3 hv) fun a b d q114_ => ?_; subst q114_); exact BindsTo.of_eq rfl) (by decide) (by rfl) (fun hok => HOk.set hok (pairs_lt _)) (fun _ => rfl) (by simp) (by rfl) ?_
  intro c hw hn hR hok hxs
  have hn1 : 1 ≤ c.n := Nat.le_of_eq hn.symm
  rw [List.append_nil]
  subst hw
  have eN : ∀ (ps td : List (Str × Str)) (b : List V), ((soH H k ps (td.map pairV))).set H.length (.list b) = (soH H k ps b) := fun ps td b => soH_set
  have gN : ∀ (ps : List (Str × Str)) (a : List V), ((soH H k ps a))[H.length]? = some (.list a) := fun ps a => soH_get
  have hhN : ∀ (ps : List (Str × Str)) (a : List V), HdrAt ((soH H k ps a)) i j k (ps.map pairV) := fun ps a => (hh.set).app
  refine TS_next (TS1_assign (v := .obj H.length) (H1 := H ++ [.list [.tup [.str x0, .str y0]]]) ?_ (by walk_at "store") (by with_unfolding_all rfl)) ?_
  · refine TE_listM ?_ ?_
    · walk_at "tes"
    · rw [sizeLine_eq]; simp
  refine TS_whileR (VS := fun (_ : List (Str × Str) × List (Str × Str)) => soV i x0 y0 H.length []) (HS := fun (x : List (Str × Str) × List (Str × Str)) => soH H k x.1 (x.2.map pairV)) (fun n x => Sol x.1 n x.2 en ps' td') (fun x => en = Str.ofString "one" ∧ x = (ps', td')) n (x0 := (ps, [(x0, y0)])) hS (by show H ++ [.list [.tup [.str x0, .str y0]]] = soH H k ps _; unfold soH; rw [set_self hh.hk]; rfl) ?_ ?_
  · intro n x hT
    cases x with
    | mk ps td =>
    cases Sol.openE hT with
    | stop e1 e2 e3 e4 =>
      clear hT
      replace e1 : td = [] := e1
      subst e1 e3 e4
      have g0 := gN ps' []
      exact .stop (by show TB _ _ (soV i x0 y0 H.length []) (soH H k ps' []) _ _ (soH H k ps' []); walk_at "tb") ⟨e2, rfl⟩
    | go td0 a b kx ky o etd h1 h2 h3 h4 h5 h6 h7 =>
      clear hT
      replace etd : td = td0 ++ [(a, b)] := etd
      subst etd
      have g0 := gN ps (td0.map pairV ++ [.tup [.str a, .str b]])
      have hq := kq_pairs h2
      have hl0 : (td0.map pairV).length + 1 ≤ sizeLine := by rw [sizeLine_eq, List.length_map]; lia
      refine .any (flO o) (varsO (soV i x0 y0 H.length []) o) (soH H k (psO ps o) ((tdO td0 o).map pairV)) ?tb0 ?body ?next
      any_goals rw [show (soH H k ps ((td0 ++ [(a, b)]).map pairV)) = soH H k ps (td0.map pairV ++ [.tup [.str a, .str b]]) from by rw [List.map_append]; rfl]
      case tb0 => show TB _ _ (soV i x0 y0 H.length []) _ _ _ (soH H k ps (td0.map pairV ++ [.tup [.str a, .str b]])); walk_at "tb"
      case body =>
        show TS _ _ (soV i x0 y0 H.length []) (soH H k ps (td0.map pairV ++ [.tup [.str a, .str b]])) _ _ _ _
        have ho := h2 (a, b) (by simp)
        have eP : ((soH H k ps (td0.map pairV ++ [.tup [.str a, .str b]]))).set H.length (.list (td0.map pairV)) = (soH H k ps (td0.map pairV)) := soH_set
        refine TS_next (vars' := (soV i x0 y0 H.length [(Str.ofString "one", .str (find3 ps a)), (Str.ofString "two", .str (find3 ps b))])) (TS1_weak (vars1 := ?v1) (TS1_atup (x := .lst [.str (find3 ps a), .str (find3 ps b)]) (H1 := (soH H k ps (td0.map pairV))) ?comp ?tas ?m1 ?m2) ?wk) ?_
        case m1 => with_unfolding_all rfl
        case m2 => with_unfolding_all rfl
        case tas => walk_at "tas"
        case wk => with_unfolding_all exact fun y v h => h
        case comp =>
          rw [← eP]
          refine TE_comp (H1 := ((soH H k ps (td0.map pairV ++ [.tup [.str a, .str b]]))).set H.length (.list (td0.map pairV))) (ys := [a, b].map fun z => V.str (find3 ps z)) (xs := [a, b].map V.str) (cl := ?cl) (own := []) [(Str.ofString "bound", .obj i)] (ItR_of (KH := fun _ => True) ?it walk_tup trivial) ?b1 ?cc1 ?d1 ?e1 ?f1 ?g1 ?hsz ?h1
          case b1 => with_unfolding_all rfl
          case cc1 => rfl
          case d1 => decide
          case e1 => intro _; rfl
          case f1 => walk_at "cap"
          case g1 => exact fun C _ => OwnOk.nil
          case it => walk_at "te"
          case hsz => rw [sizeLine_eq]; simp
          case h1 =>
            intro C m
            refine CmpR_map trivial fun z hz => ?_
            have oz : OkT z := by
              (refine Or.elim (List.mem_cons.mp hz) (fun o283_ => ?_) (fun hz => ?_); subst o283_)
              · exact ho.1
              · rw [List.mem_singleton.mp hz]; exact ho.2
            have hf := find_m (w := c.w) (hhN ps (td0.map pairV)) h1 oz
            rw [← eP] at hf
            have hR2 := Room.fm (m := some m) hR
            exact ⟨_, by walk_at "tas", by walk_at "ext", by walk_at "te"⟩
        have hr1 : Meets c.w 6 1 (.ref 339) [.str (find3 ps a)] ((soH H k ps (td0.map pairV))) (.lst (.str kx.tag :: kx.rest)) ((soH H k ps (td0.map pairV))) := by rw [← Kd.v_eq]; exact h4 _ _
        have hr2 : Meets c.w 6 1 (.ref 339) [.str (find3 ps b)] ((soH H k ps (td0.map pairV))) (.lst (.str ky.tag :: ky.rest)) ((soH H k ps (td0.map pairV))) := by rw [← Kd.v_eq]; exact h5 _ _
        refine TS_next (by walk_at "ts1") ?_
        cases Act.openE h6 with
        | mk x' y' kx' ky' hA hsw =>
        refine TS_next (vars' := (soV i x0 y0 H.length [(Str.ofString "one", .str x'), (Str.ofString "two", .str y'), (Str.ofString "there", .lst (.str ky'.tag :: ky'.rest)), (Str.ofString "here", .lst (.str kx'.tag :: kx'.rest))])) (H1 := (soH H k ps (td0.map pairV))) ?sw ?_
        case sw =>
          have ta : (ky.tag == Str.ofString "name") = ky.isName := tag_name
          have tb : (kx.tag != Str.ofString "name") = !kx.isName := tag_nname
          (refine Or.elim hsw (fun o284_ => ?_) (fun o285_ => ?_); rotate_left 1; try clear hsw; (refine e06 o285_ fun q20_ q21_ q22_ q23_ q1 q2 => ?_; try clear o285_; subst q20_; subst q21_; subst q22_; subst q23_); rotate_right 1; try clear hsw; (refine e05 o284_ fun q24_ q25_ q26_ q27_ q => ?_; try clear o284_; subst q24_; subst q25_; subst q26_; subst q27_))
          · cases hky : ky'.isName with
            | false =>
              rw [hky] at ta
              refine' TS1_weak ?w1 ?w2
              case w1 => walk_at "ts1"
              case w2 => with_unfolding_all exact fun y v h => h
            | true =>
              have hkx : kx'.isName = true := by (refine Or.elim q (fun q => ?_) (fun q => ?_)); exact q; rw [hky] at q; exact tf q
              rw [hky] at ta
              rw [hkx] at tb
              refine' TS1_weak ?w1 ?w2
              case w1 => walk_at "ts1"
              case w2 => with_unfolding_all exact fun y v h => h
          · rw [q2] at ta
            rw [q1] at tb
            refine' TS1_weak ?w1 ?w2
            case w1 => walk_at "ts1"
            case w2 => with_unfolding_all exact fun y v h => h
        have ox : OkT x' ∧ OkT y' := by
          (refine Or.elim hsw (fun o286_ => ?_) (fun o287_ => ?_); rotate_left 1; try clear hsw; (refine e03 o287_ fun q28_ q29_ _ => ?_; try clear o287_; subst q28_; subst q29_); rotate_right 1; try clear hsw; (refine e03 o286_ fun q30_ q31_ _ => ?_; try clear o286_; subst q30_; subst q31_))
          · exact ⟨find3_ok h1 ho.1, find3_ok h1 ho.2⟩
          · exact ⟨find3_ok h1 ho.2, find3_ok h1 ho.1⟩
        have hsm := same_m (w := c.w) (H := (soH H k ps (td0.map pairV))) ox.1 ox.2
        cases hA with
        | same q =>
          rename_i u v
          rw [q] at hsm
          have eT : td0 ++ ([] : List (Str × Str)) = td0 := List.append_nil td0
          show TS _ _ _ _ _ .next _ ((soH H k ps ((td0 ++ ([] : List (Str × Str))).map pairV)))
          rw [eT]
          refine' TS_weak ?w1 ?w2
          case w1 => walk_at "ts"
          case w2 => exact fun y v hl => lookup_pre hl
        | ring q1 q2 =>
          have hw := within_m (w := c.w) (hhN ps (td0.map pairV)) h1 ox.1 q2
          have tc : (ky'.tag != Str.ofString "name") = !ky'.isName := tag_nname
          show TS _ _ _ _ _ (.ret _) [] _
          cases hky : ky'.isName with
          | false =>
            rw [hky] at tc
            walk_at "ts"
          | true =>
            rw [hky] at tc
            rw [q1 hky] at hsm
            walk_at "ts"
        | bind q1 q2 q3 =>
          have hw := within_m (w := c.w) (hhN ps (td0.map pairV)) h1 ox.1 q2
          have tc : (ky'.tag != Str.ofString "name") = !ky'.isName := tag_nname
          have hst := osetitem_m (w := c.w) (hhN ps (td0.map pairV)) h1.head ox.1.len ox.1.lo ox.1.pl ox.2.pl
          have hin := isnot_N (w := c.w) (H := ((soH H k ps (td0.map pairV))).set k (.list ((hdel ps x' ++ [(x', y')]).map pairV)))
          have eT : (soH H k (hdel ps x' ++ [(x', y')]) ((td0 ++ ([] : List (Str × Str))).map pairV)) = ((soH H k ps (td0.map pairV))).set k (.list ((hdel ps x' ++ [(x', y')]).map pairV)) := by
            rw [List.append_nil]; unfold soH; rw [List.set_append_left _ _ (by rw [List.length_set]; exact lt_of_get hh.hk), List.set_set]
          show TS _ _ _ _ _ .next _ ((soH H k (hdel ps x' ++ [(x', y')]) ((td0 ++ ([] : List (Str × Str))).map pairV)))
          rw [eT]
          cases hky : ky'.isName with
          | false =>
            rw [hky] at tc
            refine' TS_weak ?w1 ?w2
            case w1 => walk_at "ts"
            case w2 => exact fun y v hl => lookup_pre hl
          | true =>
            rw [hky] at tc
            rw [q1 hky] at hsm
            refine' TS_weak ?w1 ?w2
            case w1 => walk_at "ts"
            case w2 => exact fun y v hl => lookup_pre hl
        | pairs q1 q2 q3 q4 =>
          rename_i l1 r1 l2 r2
          have g2 := gN ps (td0.map pairV)
          have hl2 : (td0.map pairV).length + [V.tup [.str l1, .str l2], V.tup [.str r1, .str r2]].length ≤ 1000 := by rw [List.length_map]; simp; lia
          have eT : (soH H k ps ((td0 ++ [(l1, l2), (r1, r2)]).map pairV)) = ((soH H k ps (td0.map pairV))).set H.length (.list (td0.map pairV ++ [V.tup [.str l1, .str l2], V.tup [.str r1, .str r2]])) := by
            rw [eN, List.map_append]; rfl
          show TS _ _ _ _ _ .next _ ((soH H k ps ((td0 ++ [(l1, l2), (r1, r2)]).map pairV)))
          rw [eT]
          refine' TS_weak ?w1 ?w2
          case w1 => walk_at "ts"
          case w2 => exact fun y v hl => lookup_pre hl
        | clash q1 q2 q3 q4 q5 q6 =>
          have hne : Meets c.w 2 1 (.ref 45) [.lst (.str kx'.tag :: kx'.rest), .lst (.str ky'.tag :: ky'.rest)] ((soH H k ps (td0.map pairV))) (.bool true) ((soH H k ps (td0.map pairV))) :=
            ne_m (fun H => kd_kq q1 q5) (fun H => kd_kq q2 q6) (fun H => ⟨fun z => absurd (kd_inj z) q4, fun z => by exact tf z⟩)
          show TS _ _ _ _ _ (.ret _) [] _
          cases kx' with
          | name x => exact tf q1
          | pair l r =>
            cases ky' with
            | name x => exact tf q2
            | pair l' r' => exact absurd ⟨l, r, l', r', rfl, rfl⟩ q3
            | port n => walk_at "ts"
          | port n =>
            cases ky' with
            | name x => exact tf q2
            | pair l' r' => walk_at "ts"
            | port n' => walk_at "ts"
        | ports =>
          rename_i n
          have hne : Meets c.w 2 1 (.ref 45) [.lst (.str (Kd.port n).tag :: (Kd.port n).rest), .lst (.str (Kd.port n).tag :: (Kd.port n).rest)] ((soH H k ps (td0.map pairV))) (.bool false) ((soH H k ps (td0.map pairV))) :=
            ne_m (fun H => kd_kq rfl (fun l r z => by cases z)) (fun H => kd_kq rfl (fun l r z => by cases z)) (fun H => ⟨fun z => rfl, fun z => rfl⟩)
          have eT : td0 ++ ([] : List (Str × Str)) = td0 := List.append_nil td0
          show TS _ _ _ _ _ .next _ ((soH H k ps ((td0 ++ ([] : List (Str × Str))).map pairV)))
          rw [eT]
          refine' TS_weak ?w1 ?w2
          case w1 => walk_at "ts"
          case w2 => exact fun y v hl => lookup_pre hl
      case next =>
        refine Or.elim h7 (fun h7 => ?_) (fun h7 => ?_)
        · refine e03 h7 fun q33_ q34_ q35_ => ?_
          subst q33_; subst q34_; subst q35_
          exact .inr ⟨.str en, rfl, rfl, rfl, rfl, rfl⟩
        · refine e33 h7 fun ps1 add m q32_ hm hS' => ?_
          subst q32_
          exact .inl ⟨rfl, m, hm, (ps1, td0 ++ add), hS', rfl, rfl⟩
  · intro x hx
    refine e02 hx fun e1 e2 => ?_
    clear hx; subst e1; subst e2
    exact TS_ret (TS1_return TE_str)
end
section
local macro_rules | `(tactic| walk_at "pc") => `(tactic| walk_at "!PC_meets a:as n:as r:as")
inductive Told (ps : List (Str × Str)) (lab : List Int) : Nat → Str → Str → Prop
  | pair {n : Nat} {x l r s1 s2 : Str} : OkT x → Rd (find3 ps x) (.pair l r) → s1.length + s2.length ≤ 10000 → Told ps lab n l s1 → Told ps lab n r s2 → Told ps lab (n + 1) x (Str.ofString "(" ++ s1 ++ s2 ++ Str.ofString ")")
  | port {n : Nat} {x : Str} {m : Int} : OkT x → Rd (find3 ps x) (.port m) → m.natAbs.log2 < 1920 → (Str.ofString (toString m)).length ≤ 1000 → Told ps lab n x (Str.ofString "h" ++ Str.ofString (toString m))
  | name {n : Nat} {x y : Str} {q r : Nat} {lq : Int} : 3 ≤ lab.length → OkT x → OkT y → Rd (find3 ps x) (.name y) → q < 3 → Txt.lower y = strL [120 + q] → lab[q]? = some lq → lab.idxOf lq = r → r < 3 → Told ps lab n x (strL [120 + r])
theorem xyz_item {r : Nat} (h : r < 3) : Txt.item (Str.ofString "xyz") ((r : Nat) : Int) = strL [120 + r] := by
  match r, h with
  | 0, _ => decide
  | 1, _ => decide
  | 2, _ => decide
theorem xyz_idx {q : Nat} (h : q < 3) : (Str.ofString "xyz").cps.toList.idxOf (120 + q) = q := by
  match q, h with
  | 0, _ => decide
  | 1, _ => decide
  | 2, _ => decide
theorem told_m {w : World} {i j k n t₀ : Nat} {ps : List (Str × Str)} {lab : List Int} {x s : Str} (hh : HdrAt H i j k (ps.map pairV)) (ho : Hok ps) (h0 : 1 ≤ t₀) (hlab : ∀ v ∈ lab, 0 ≤ v ∧ v ≤ 256) (hT : Told ps lab n x s) :
    Meets w (9 + n) 1 (.ref 372) [.obj i, .lst (cohL t₀ lab), .str x] H (.str s) H := by
  induction hT generalizing w with
  | pair h1 h2 h3 hh1 hh2 ih1 ih2 =>
    rename_i n x l r s1 s2
    refine meets_defC (J := []) (lv := 9 + n) (ps := [Str.ofString "bound", Str.ofString "label", Str.ofString "term"]) (ds := []) (dxs := []) (Nat.le_refl _) (by k_is) (by k_is) rfl .nil (by intro s vs hv X; (refine e31 (len3 hv) fun a b d q119_ => ?_; subst q119_); exact BindsTo.of_eq rfl) (by decide) (by rfl) id (fun _ => rfl) (Nat.le_refl _) (by rfl) ?_
    intro c hw hn hR hok hxs
    have hn1 : 1 ≤ c.n := Nat.le_of_eq hn.symm
    rw [List.append_nil, List.append_nil]
    subst hw
    have hf := find_m (w := c.w) hh ho h1
    have hr : Meets c.w 6 1 (.ref 339) [.str (find3 ps x)] H (.lst [.str (Str.ofString "pair"), .str l, .str r]) H := h2 _ _
    have t1 := ih1 (w := c.w)
    have t2 := ih2 (w := c.w)
    have e1 : (Str.ofString "(").length = 1 := by decide
    have e2 : (Str.ofString ")").length = 1 := by decide
    have hR9 := hR.le (lv' := 9) (by lia)
    walk_at "ts"
  | port h1 h2 h3 h4 =>
    rename_i n x m
    refine MeetsA.le (lv := 9) ?_ (by lia)
    refine meets_defC (J := []) (lv := 8) (ps := [Str.ofString "bound", Str.ofString "label", Str.ofString "term"]) (ds := []) (dxs := []) (Nat.le_refl _) (by k_is) (by k_is) rfl .nil (by intro s vs hv X; (refine e31 (len3 hv) fun a b d q120_ => ?_; subst q120_); exact BindsTo.of_eq rfl) (by decide) (by rfl) id (fun _ => rfl) (Nat.le_refl _) (by rfl) ?_
    intro c hw hn hR hok hxs
    have hn1 : 1 ≤ c.n := Nat.le_of_eq hn.symm
    rw [List.append_nil, List.append_nil]
    subst hw
    have hf := find_m (w := c.w) hh ho h1
    have hr : Meets c.w 6 1 (.ref 339) [.str (find3 ps x)] H (.lst [.str (Str.ofString "port"), .tup [.str (Str.ofString "h"), .int m]]) H := h2 _ _
    have e1 : (Str.ofString "h").length = 1 := by decide
    walk_at "ts"
  | name hlen3 h1 h2 h3 h4 h5 h6 h7 h8 =>
    rename_i n x y q r lq
    refine MeetsA.le (lv := 9) ?_ (by lia)
    refine meets_defC (J := []) (lv := 8) (ps := [Str.ofString "bound", Str.ofString "label", Str.ofString "term"]) (ds := []) (dxs := []) (Nat.le_refl _) (by k_is) (by k_is) rfl .nil (by intro s vs hv X; (refine e31 (len3 hv) fun a b d q121_ => ?_; subst q121_); exact BindsTo.of_eq rfl) (by decide) (by rfl) id (fun _ => rfl) (Nat.le_refl _) (by rfl) ?_
    intro c hw hn hR hok hxs
    have hn1 : 1 ≤ c.n := Nat.le_of_eq hn.symm
    rw [List.append_nil, List.append_nil]
    subst hw
    have hf := find_m (w := c.w) hh ho h1
    have hr : Meets c.w 6 1 (.ref 339) [.str (find3 ps x)] H (.lst [.str (Str.ofString "name"), .str y]) H := h3 _ _
    obtain ⟨d0, d1, d2, ls, rfl⟩ : ∃ d0 d1 d2 ls, lab = d0 :: d1 :: d2 :: ls := by
      match lab, hlen3 with
      | d0 :: d1 :: d2 :: ls, _ => exact ⟨d0, d1, d2, ls, rfl⟩
    have hS : ∀ u, 1 ≤ u → Meets c.w 2 (u + 1) (.ref 87) [.str (Str.ofString "xyz"), .strP (Txt.lower y) (· = u)] H (.int (q : Int)) H := fun u hu => by
      have := indexOf_S (w := c.w) (H := H) (a := Str.ofString "xyz") (z := 120 + q) hu (by decide +kernel) (by match q, h4 with | 0, _ => decide | 1, _ => decide | 2, _ => decide)
      rw [xyz_idx h4] at this
      rw [h5]; exact this
    have hlq : lq ∈ d0 :: d1 :: d2 :: ls := List.mem_of_getElem? h6
    have hL := indexOf_L (w := c.w) (H := H) h0 hlq hlab
    rw [h7] at hL
    have hr3 : 0 ≤ (r : Int) ∧ (r : Int) < ((Str.ofString "xyz").length : Int) ∧ (Str.ofString "xyz").length ≤ 16777216 := by
      have : (Str.ofString "xyz").length = 3 := by decide
      rw [this]; lia
    have hy1 : y.length ≤ 5592405 := by have := h2.len; lia
    rw [← xyz_item h8]
    match q, h4 with
    | 0, _ => (replace h6 := Option.some.inj h6; subst h6); walk_at "ts"
    | 1, _ => (replace h6 := Option.some.inj h6; subst h6); walk_at "ts"
    | 2, _ => (replace h6 := Option.some.inj h6; subst h6); walk_at "ts"
end
section
theorem leaf_m {w : World} {a b : Int} (h : 0 ≤ a ∧ a < 5) : Meets w 2 1 (.ref 297) [.int a, .int b] H (.str (leafS a b)) H := by
  by_cases h3 : a < 3
  · exact leaf_meets1 ⟨h.1, h3⟩
  · exact leaf_meets2 ⟨by lia, h.2⟩
theorem esc_len (x : Str) : (esc x).length ≤ 2 * x.length := by
  have := strL_toList x
  rw [← this, esc_strL, strL_len, strL_len, escL_len]
  have := List.countP_le_length (p := (· == 34)) (l := x.cps.toList)
  lia
theorem leafS_len {a b : Int} (h : 0 ≤ a ∧ a < 5) : (leafS a b).length ≤ 30 := by
  unfold leafS
  split
  · have := len_item (lit "xyzXYZ") (a + b.fmod 2 * 3); lia
  · have h2 : (Str.ofString (toString (7 * a))).length ≤ 10 := len_num (by lia) (by lia)
    have e1 : (lit "229)(").length = 5 := by decide
    have e2 : (lit ")()").length = 3 := by decide
    have e3 := len_item (lit "|!/") (b.fmod 3)
    have e4 := len_mul3 (lit "|!/") (b.fmod 3)
    simp only [Str.length_append]
    lia
noncomputable def termS (a b : Int) : Str := if a < 5 then leafS a b else pairS (leafS ((a - 5).fdiv 5) (b + 1)) (leafS ((a - 5).fmod 5) (b + 2))
local macro_rules | `(tactic| walk_at "pc") => `(tactic| walk_at "!PC_m a:as n:as r:as l:r")
theorem term_m {w : World} {a b : Int} (h : 0 ≤ a ∧ a < 30) : Meets w 4 1 (.ref 311) [.int a, .int b] H (.str (termS a b)) H := by
  refine meets_defC (J := []) (lv := 3) (ps := [Str.ofString "code", Str.ofString "dress"]) (ds := []) (dxs := []) (Nat.le_refl _) (by k_is) (by k_is) rfl .nil (by intro s vs hv X; (refine e21 (len2 hv) fun a b q122_ => ?_; subst q122_); exact BindsTo.of_eq rfl) (by decide) (by rfl) id (fun _ => rfl) (Nat.le_refl _) (by rfl) ?_
  intro c hw hn hR hok hxs
  have hn1 : 1 ≤ c.n := Nat.le_of_eq hn.symm
  rw [List.append_nil, List.append_nil]
  subst hw
  unfold termS
  by_cases h5 : a < 5
  · rw [if_pos h5]
    have hl := leaf_m (w := c.w) (H := H) (a := a) (b := b) ⟨h.1, h5⟩
    walk_at "ts"
  · rw [if_neg h5]
    have h1 : 0 ≤ (a - 5).fdiv 5 ∧ (a - 5).fdiv 5 < 5 := by rw [Int.fdiv_eq_ediv_of_nonneg _ (by lia)]; lia
    have h2 : 0 ≤ (a - 5).fmod 5 ∧ (a - 5).fmod 5 < 5 := by rw [Int.fmod_eq_emod_of_nonneg _ (by lia)]; lia
    have hl := leaf_m (w := c.w) (H := H) (a := (a - 5).fdiv 5) (b := b + 1) h1
    have hr := leaf_m (w := c.w) (H := H) (a := (a - 5).fmod 5) (b := b + 2) h2
    have l1 := leafS_len (b := b + 1) h1
    have l2 := leafS_len (b := b + 2) h2
    have l3 := esc_len (leafS ((a - 5).fdiv 5) (b + 1))
    have l4 := esc_len (leafS ((a - 5).fmod 5) (b + 2))
    have hp := pair_meets (w := c.w) (H := H) (l := leafS ((a - 5).fdiv 5) (b + 1)) (r := leafS ((a - 5).fmod 5) (b + 2)) (by lia) (by lia) (by lia) (by lia)
    walk_at "ts"
end
section
theorem PC_join' {c : Amb} {e : Sc} {vars : Vars} {r : Tok → Prop} {x : Str} {l : List Str} {xs : List V} (hl : xs = l.map V.str) (hok : JoinOk x l = true) : PC c e vars H (.builtin "str.join") [.strP x r, .lst xs] (.str (Txt.join x l)) H := hl ▸ PC_join hok
local macro_rules | `(tactic| walk_at "len") => `(tactic| walk_at "!=z30|=as")
local macro_rules | `(tactic| walk_at "pc") => `(tactic| walk_at "!PC_join' l a ; a:as l:r")
noncomputable abbrev goodS (m : Str) : Str := Txt.mul m 3 ++ Str.ofString "1" ++ m
noncomputable def repliesS (m o : Str) (port : Int) : List Str :=
  [Str.ofString "129 (" ++ goodS m ++ Str.ofString ")", Str.ofString "239 (" ++ goodS m ++ Str.ofString ")", Str.ofString "228 229 (" ++ goodS m ++ Str.ofString ")", Str.ofString "229 (" ++ goodS m ++ Str.ofString "x)",
   Str.ofString "229 (" ++ m ++ goodS m ++ Str.ofString ")", Str.ofString "229 (" ++ Txt.slice (goodS m) (some 1) none ++ Str.ofString ")", Str.ofString "229 212)", Str.ofString "229 (" ++ goodS m ++ Str.ofString "x",
   Txt.join m [Str.ofString "229 (", Str.ofString "2", Txt.mul o 2 ++ Str.ofString "1", Str.ofString (toString port), Str.ofString ")"]]
theorem replies_m {w : World} {m o x y : Str} {i j port : Int} (hm : m = Txt.item x i) (ho : o = Txt.item y j) (hps : (Str.ofString (toString port)).length ≤ 10) (hp : port.natAbs.log2 < 1920) (hj : JoinOk m [Str.ofString "229 (", Str.ofString "2", Txt.mul o 2 ++ Str.ofString "1", Str.ofString (toString port), Str.ofString ")"] = true) :
    Meets w 2 1 (.ref 318) [.str m, .str o, .int port] H (.lst ((repliesS m o port).map V.str)) H := by
  refine meets_defC (J := []) (lv := 1) (ps := [Str.ofString "mark", Str.ofString "other", Str.ofString "port"]) (ds := []) (dxs := []) (Nat.le_refl _) (by k_is) (by k_is) rfl .nil (by intro s vs hv X; (refine e31 (len3 hv) fun a b d q123_ => ?_; subst q123_); exact BindsTo.of_eq rfl) (by decide) (by rfl) id (fun _ => rfl) (Nat.le_refl _) (by rfl) ?_
  intro c hw hn hR hok hxs
  have hn1 : 1 ≤ c.n := Nat.le_of_eq hn.symm
  rw [List.append_nil, List.append_nil]
  subst hw
  subst hm ho
  have q0 : (Str.ofString "1").length = 1 := by decide
  have q1 : (Str.ofString "129 (").length = 5 := by decide
  have q2 : (Str.ofString "239 (").length = 5 := by decide
  have q3 : (Str.ofString "228 229 (").length = 9 := by decide
  have q4 : (Str.ofString "229 (").length = 5 := by decide
  have q5 : (Str.ofString "x)").length = 2 := by decide
  have q6 : (Str.ofString ")").length = 1 := by decide
  have q7 : (Str.ofString "229 212)").length = 8 := by decide
  have q8 : (Str.ofString "x").length = 1 := by decide
  have q9 : (Str.ofString "2").length = 1 := by decide
  have hsl := Txt.slice_le (Txt.mul (Txt.item x i) 3 ++ Str.ofString "1" ++ Txt.item x i) (some 1) none
  have hgl : (Txt.mul (Txt.item x i) 3 ++ Str.ofString "1" ++ Txt.item x i).length = 5 := by simp only [Str.length_append, len_item, len_mul3, q0]
  have hgl2 : (Txt.mul (Txt.item x i) 3 ++ Str.ofString "1" ++ Txt.item x i).length ≤ 16777216 := by lia
  have hm2 : (Txt.mul (Txt.item y j) 2).length = 2 := by
    have e := PyProof.Rows.len_mul (Txt.item y j) 2
    rw [len_item] at e
    simp at e
    lia
  have hn2 := hn1
  have hR2 := hR
  have hp2 := hp
  have hj2 := hj
  dsimp only [repliesS, goodS, List.map]
  walk_at "ts"
end
section
local macro_rules | `(tactic| walk_at "pc") => `(tactic| walk_at "!PC_isint|PC_lenI hi:as hj:as hs:k hf:k h:as hz:as hn:as hr:room")
theorem hint_m {w : World} {i j k : Nat} {xs : List V} (hh : HdrAt H i j k xs) (hl : xs.length ≤ 1000) : Meets w 6 1 (.ref 102) [.obj i] H (.int xs.length) H := by
  refine meets_defC (J := []) (lv := 5) (ps := [Str.ofString "obj", Str.ofString "default"]) (ds := [.int 0 _]) (dxs := [.int 0]) (Nat.le_refl _) (by k_is) (by k_is) rfl (.cons (.int _ _ trivial) .nil) (by intro s vs hv X; (refine Exists.elim (len1 hv) fun a q124_ => ?_; subst q124_); exact BindsTo.of_defaults (o := _) rfl (X _ _ (by k_is)) rfl rfl rfl) (by decide) (by rfl) id (fun _ => rfl) (Nat.le_refl _) (by rfl) ?_
  intro c hw hn hR hok hxs
  have hn1 : 1 ≤ c.n := Nat.le_of_eq hn.symm
  rw [List.append_nil]
  subst hw
  obtain ⟨hi, hj, hk⟩ := id hh
  have hln := len_m (w := c.w) hh hl
  have hz : 0 ≤ (xs.length : Int) ∧ (xs.length : Int) < 2 ^ 63 := by lia
  refine TS_next (vars' := [Str.ofString "obj", Str.ofString "default"].zip [V.obj i, V.int 0]) (H1 := H) (TS1_if' (q := !true) ?a (.inr ⟨rfl, TS_nil⟩)) ?_
  case a => walk_at "tb"
  refine TS_ret (TS1_try_ok ?_)
  walk_at "ts"
end
section
noncomputable abbrev kidV (p : Nat × (Nat × Nat)) : Int × V := ((p.1 : Int), .tup [.int (p.2.1 : Int), .int (p.2.2 : Int)])
noncomputable def pairsOf' (lab : List Int) (ks : List (Nat × (Nat × Nat))) (v : Int) : List Nat := (ks.filter fun p => lab[p.1]? == some v).map (·.1)
inductive Due (lab : List Int) (ks : List (Nat × (Nat × Nat))) : Nat → Nat → Str → Prop
  | pair {n k p l r : Nat} {v : Int} {rest : List Nat} {s1 s2 : Str} : lab[k]? = some v → pairsOf' lab ks v = p :: rest → (p, (l, r)) ∈ ks → s1.length + s2.length ≤ 10000 → Due lab ks n l s1 → Due lab ks n r s2 → Due lab ks (n + 1) k (Str.ofString "(" ++ s1 ++ s2 ++ Str.ofString ")")
  | num1 {n k : Nat} {v : Int} : lab[k]? = some v → pairsOf' lab ks v = [] → lab[3]? = some v → Due lab ks n k (Str.ofString "h21")
  | num2 {n k : Nat} {v v3 : Int} : lab[k]? = some v → pairsOf' lab ks v = [] → lab[3]? = some v3 → v3 ≠ v → lab[4]? = some v → Due lab ks n k (Str.ofString "h28")
  | name {n k m : Nat} {v v3 v4 : Int} : lab[k]? = some v → pairsOf' lab ks v = [] → lab[3]? = some v3 → v3 ≠ v → lab[4]? = some v4 → v4 ≠ v → m < 3 → lab[m]? = some v → (∀ j, j < m → lab[j]? ≠ some v) → Due lab ks n k (strL [120 + m])
local macro_rules | `(tactic| walk_at "po") => `(tactic| walk_at "!PO_itemL j=j hi hx hj hs ; hi:u hx:as hj:as hs:z2")
local macro_rules | `(tactic| walk_at "po") => `(tactic| walk_at "!PO_inT hx:as|PO_itemD hi:as hx:as hs:z2|PO_neV a:as b:r u:room h:as")
local macro_rules | `(tactic| walk_at "pc") => `(tactic| walk_at "!PC_meets a:as n:as r:as")
local macro_rules | `(tactic| walk_at "pc") => `(tactic| walk_at "!PC_sortedD a:as b:as d:z31")
theorem lt_of_getQ {α : Type} {l : List α} {i : Nat} {a : α} (h : l[i]? = some a) : i < l.length := by
  (refine Or.elim (Nat.lt_or_ge i l.length) (fun z => ?_) (fun z => ?_))
  · exact z
  · rw [List.getElem?_eq_none z] at h; exact ns h
theorem kq_ints (l : List Nat) : kqdOk 8 ((V.lst (l.map fun (p : Nat) => V.int (p : Int))).D H) = true := by
  show kqdOk 8 (.list (Vs.D0 (l.map fun (p : Nat) => V.int (p : Int)))) = true
  rw [Vs.D0_map, List.map_map]
  simp only [kqdOk, List.all_map, List.all_eq_true]
  intro x hx; rfl
theorem coh_get {t₀ : Nat} {lab : List Int} {j : Nat} {v : Int} (h : lab[j]? = some v) : (cohL t₀ lab)[j]? = some (.intP v (· = t₀ + v.toNat)) := by
  rw [List.getElem?_map, h]; rfl
theorem sortedKs {ks : List (Nat × (Nat × Nat))} (h : (ks.map (·.1)).Pairwise (· < ·)) : ((ks.map kidV).map (·.1)).Pairwise (· ≤ ·) := by
  rw [List.map_map]
  rw [List.pairwise_map] at h ⊢
  exact h.imp fun {a b} q => by show (a.1 : Int) ≤ (b.1 : Int); lia
theorem due_m {w : World} {i n k t₀ : Nat} {lab : List Int} {ks : List (Nat × (Nat × Nat))} {s : Str} (hi : H[i]? = some (.dict (ks.map kidV))) (h0 : 1 ≤ t₀) (hlab : lab.length = 9) (hfew : ks.length ≤ 9) (hks : ∀ p ∈ ks, p.1 < 9) (hsort : (ks.map (·.1)).Pairwise (· < ·)) (hT : Due lab ks n k s) :
    Meets w (2 + n) 1 (.ref 382) [.lst (cohL t₀ lab), .obj i, .int (k : Int)] H (.str s) H := by
  induction hT generalizing w with
  | pair h1 h2 h3 h4 hd1 hd2 ih1 ih2 =>
    rename_i n k p l r v rest s1 s2
    refine meets_defC (J := []) (lv := 2 + n) (ps := [Str.ofString "label", Str.ofString "kids", Str.ofString "k"]) (ds := []) (dxs := []) (Nat.le_refl _) (by k_is) (by k_is) rfl .nil (by intro s vs hv X; (refine e31 (len3 hv) fun a b d q125_ => ?_; subst q125_); exact BindsTo.of_eq rfl) (by decide) (by rfl) id (fun _ => rfl) (Nat.le_refl _) (by rfl) ?_
    intro c hw hn hR hok hxs
    have hn1 : 1 ≤ c.n := Nat.le_of_eq hn.symm
    rw [List.append_nil, List.append_nil]
    subst hw
    have hlen : ks.length < 60 := by lia
    have hso := sortedKs hsort
    refine TS_next (TS1_acomp (H1 := H) (H2 := H) (xs := ks.map fun p => V.int (p.1 : Int)) (ys := (pairsOf' lab ks v).map fun (p : Nat) => V.int (p : Int)) (cl := ?cl) (own := []) [(Str.ofString "label", .lst (cohL t₀ lab)), (Str.ofString "k", .int (k : Int))] ?hx ?hsw (ItR_of (KH := fun _ => True) ?it walk_lst trivial) ?b1 ?cc1 ?d1 ?e1 ?f1 ?g1 ?hsz ?h1) ?_
    case hsw => with_unfolding_all rfl
    case hx => walk_at "store"
    case b1 => with_unfolding_all rfl
    case cc1 => rfl
    case d1 => decide
    case e1 => intro _; rfl
    case f1 => walk_at "cap"
    case g1 => exact fun C _ => OwnOk.nil
    case hsz => rw [sizeLine_eq, List.length_map]; lia
    case it =>
      have e1 : (ks.map kidV).map (·.1) = ks.map fun p => (p.1 : Int) := by rw [List.map_map]; rfl
      have e2 : (ks.map fun p => V.int (p.1 : Int)) = ((ks.map kidV).map (·.1)).map V.int := by rw [e1, List.map_map]; rfl
      rw [e2]
      walk_at "te"
    case h1 =>
      intro C m
      have e3 : (pairsOf' lab ks v).map (fun (p : Nat) => V.int (p : Int)) = (ks.filter fun p => lab[p.1]? == some v).map fun p => V.int (p.1 : Int) := by unfold pairsOf'; rw [List.map_map]; rfl
      rw [e3]
      refine CmpR_filter trivial (fun p hp => ?_) _ (fun _ _ h => h)
      obtain ⟨u, hu⟩ : ∃ u, lab[p.1]? = some u := ⟨_, List.getElem?_eq_getElem (by have := hks p hp; lia)⟩
      have g1 := coh_get (t₀ := t₀) hu
      have g2 := coh_get (t₀ := t₀) h1
      have hb1 : p.1 < 1000000 := by have := hks p hp; lia
      have hb2 : k < 1000000 := by have := lt_of_getQ h1; lia
      have eq : (lab[p.1]? == some v) = (u == v) := by rw [hu]; rfl
      rw [eq]
      refine ⟨_, by walk_at "tas", by walk_at "ext", ?_, fun _ => by walk_at "te"⟩
      refine CTest.one ?_
      walk_at "tb"
    rw [h2, List.map_cons]
    (refine Exists.elim (List.getElem?_of_mem h3) fun jj hjj => ?_)
    have hes : (ks.map kidV)[jj]? = some ((p : Int), .tup [.int (l : Int), .int (r : Int)]) := by rw [List.getElem?_map, hjj]; rfl
    have e1 : (Str.ofString "(").length = 1 := by decide
    have e2 : (Str.ofString ")").length = 1 := by decide
    have t1 := ih1 (w := c.w)
    have t2 := ih2 (w := c.w)
    have hne : ∀ H : List MO, kqdOk 8 ((V.lst (V.int (p : Int) :: rest.map fun (p : Nat) => V.int (p : Int))).D H) = true := fun H => kq_ints (p :: rest)
    have hneq : ∀ H : List MO, (V.lst (V.int (p : Int) :: rest.map fun (p : Nat) => V.int (p : Int))).D H = (V.lst []).D H ↔ true = false := fun H => neV_true (by simp [V.D, V.D0, Vs.D0])
    have hne' := hne H
    have hneq' := hneq H
    walk_at "ts"
  | num1 h1 h2 h3 =>
    rename_i n k v
    refine MeetsA.le (lv := 2) ?_ (by lia)
    refine meets_defC (J := []) (lv := 1) (ps := [Str.ofString "label", Str.ofString "kids", Str.ofString "k"]) (ds := []) (dxs := []) (Nat.le_refl _) (by k_is) (by k_is) rfl .nil (by intro s vs hv X; (refine e31 (len3 hv) fun a b d q126_ => ?_; subst q126_); exact BindsTo.of_eq rfl) (by decide) (by rfl) id (fun _ => rfl) (Nat.le_refl _) (by rfl) ?_
    intro c hw hn hR hok hxs
    have hn1 : 1 ≤ c.n := Nat.le_of_eq hn.symm
    rw [List.append_nil, List.append_nil]
    subst hw
    have hlen : ks.length < 60 := by lia
    have hso := sortedKs hsort
    refine TS_next (TS1_acomp (H1 := H) (H2 := H) (xs := ks.map fun p => V.int (p.1 : Int)) (ys := (pairsOf' lab ks v).map fun (p : Nat) => V.int (p : Int)) (cl := ?cln) (own := []) [(Str.ofString "label", .lst (cohL t₀ lab)), (Str.ofString "k", .int (k : Int))] ?hxn ?hswn (ItR_of (KH := fun _ => True) ?itn walk_lst trivial) ?b1n ?cc1n ?d1n ?e1n ?f1n ?g1n ?hszn ?h1n) ?_
    case hswn => with_unfolding_all rfl
    case hxn => walk_at "store"
    case b1n => with_unfolding_all rfl
    case cc1n => rfl
    case d1n => decide
    case e1n => intro _; rfl
    case f1n => walk_at "cap"
    case g1n => exact fun C _ => OwnOk.nil
    case hszn => rw [sizeLine_eq, List.length_map]; lia
    case itn =>
      have e1 : (ks.map kidV).map (·.1) = ks.map fun p => (p.1 : Int) := by rw [List.map_map]; rfl
      have e2 : (ks.map fun p => V.int (p.1 : Int)) = ((ks.map kidV).map (·.1)).map V.int := by rw [e1, List.map_map]; rfl
      rw [e2]
      walk_at "te"
    case h1n =>
      intro C m
      have e3 : (pairsOf' lab ks v).map (fun (p : Nat) => V.int (p : Int)) = (ks.filter fun p => lab[p.1]? == some v).map fun p => V.int (p.1 : Int) := by unfold pairsOf'; rw [List.map_map]; rfl
      rw [e3]
      refine CmpR_filter trivial (fun p hp => ?_) _ (fun _ _ h => h)
      obtain ⟨u, hu⟩ : ∃ u, lab[p.1]? = some u := ⟨_, List.getElem?_eq_getElem (by have := hks p hp; lia)⟩
      have g1 := coh_get (t₀ := t₀) hu
      have g2 := coh_get (t₀ := t₀) h1
      have hb1 : p.1 < 1000000 := by have := hks p hp; lia
      have hb2 : k < 1000000 := by have := lt_of_getQ h1; lia
      have eq : (lab[p.1]? == some v) = (u == v) := by rw [hu]; rfl
      rw [eq]
      refine ⟨_, by walk_at "tas", by walk_at "ext", ?_, fun _ => by walk_at "te"⟩
      refine CTest.one ?_
      walk_at "tb"
    rw [h2, List.map_nil]
    have g1 := coh_get (t₀ := t₀) h1
    have hb2 : k < 1000000 := by have := lt_of_getQ h1; lia
    have hne' : kqdOk 8 ((V.lst []).D H) = true := rfl
    have hneq' : (V.lst []).D H = (V.lst []).D H ↔ false = false := neV_false rfl
    have g3 := coh_get (t₀ := t₀) h3
    obtain ⟨v4, h4⟩ : ∃ v4, lab[4]? = some v4 := ⟨_, List.getElem?_eq_getElem (by lia)⟩
    have g4 := coh_get (t₀ := t₀) h4
    have hin : ∀ {fz : Lg} {ρ : List Addr} {vs : List Value}, VRs fz ρ vs [.intP v (· = t₀ + v.toNat), .intP v4 (· = t₀ + v4.toNat)] → IntsAre vs [v, v4] := fun h => vr_coh (ns := [v, v4]) h
    have hany : ([v, v4].any (· == v)) = true := by simp
    have b3 : 3 < 1000000 := by lia
    have b4 : 4 < 1000000 := by lia
    have hvv : (v == v) = true := by simp
    walk_at "ts"
  | num2 h1 h2 h3 h4 h5 =>
    rename_i n k v v3
    refine MeetsA.le (lv := 2) ?_ (by lia)
    refine meets_defC (J := []) (lv := 1) (ps := [Str.ofString "label", Str.ofString "kids", Str.ofString "k"]) (ds := []) (dxs := []) (Nat.le_refl _) (by k_is) (by k_is) rfl .nil (by intro s vs hv X; (refine e31 (len3 hv) fun a b d q127_ => ?_; subst q127_); exact BindsTo.of_eq rfl) (by decide) (by rfl) id (fun _ => rfl) (Nat.le_refl _) (by rfl) ?_
    intro c hw hn hR hok hxs
    have hn1 : 1 ≤ c.n := Nat.le_of_eq hn.symm
    rw [List.append_nil, List.append_nil]
    subst hw
    have hlen : ks.length < 60 := by lia
    have hso := sortedKs hsort
    refine TS_next (TS1_acomp (H1 := H) (H2 := H) (xs := ks.map fun p => V.int (p.1 : Int)) (ys := (pairsOf' lab ks v).map fun (p : Nat) => V.int (p : Int)) (cl := ?clm) (own := []) [(Str.ofString "label", .lst (cohL t₀ lab)), (Str.ofString "k", .int (k : Int))] ?hxm ?hswm (ItR_of (KH := fun _ => True) ?itm walk_lst trivial) ?b1m ?cc1m ?d1m ?e1m ?f1m ?g1m ?hszm ?h1m) ?_
    case hswm => with_unfolding_all rfl
    case hxm => walk_at "store"
    case b1m => with_unfolding_all rfl
    case cc1m => rfl
    case d1m => decide
    case e1m => intro _; rfl
    case f1m => walk_at "cap"
    case g1m => exact fun C _ => OwnOk.nil
    case hszm => rw [sizeLine_eq, List.length_map]; lia
    case itm =>
      have e1 : (ks.map kidV).map (·.1) = ks.map fun p => (p.1 : Int) := by rw [List.map_map]; rfl
      have e2 : (ks.map fun p => V.int (p.1 : Int)) = ((ks.map kidV).map (·.1)).map V.int := by rw [e1, List.map_map]; rfl
      rw [e2]
      walk_at "te"
    case h1m =>
      intro C m
      have e3 : (pairsOf' lab ks v).map (fun (p : Nat) => V.int (p : Int)) = (ks.filter fun p => lab[p.1]? == some v).map fun p => V.int (p.1 : Int) := by unfold pairsOf'; rw [List.map_map]; rfl
      rw [e3]
      refine CmpR_filter trivial (fun p hp => ?_) _ (fun _ _ h => h)
      obtain ⟨u, hu⟩ : ∃ u, lab[p.1]? = some u := ⟨_, List.getElem?_eq_getElem (by have := hks p hp; lia)⟩
      have g1 := coh_get (t₀ := t₀) hu
      have g2 := coh_get (t₀ := t₀) h1
      have hb1 : p.1 < 1000000 := by have := hks p hp; lia
      have hb2 : k < 1000000 := by have := lt_of_getQ h1; lia
      have eq : (lab[p.1]? == some v) = (u == v) := by rw [hu]; rfl
      rw [eq]
      refine ⟨_, by walk_at "tas", by walk_at "ext", ?_, fun _ => by walk_at "te"⟩
      refine CTest.one ?_
      walk_at "tb"
    rw [h2, List.map_nil]
    have g1 := coh_get (t₀ := t₀) h1
    have hb2 : k < 1000000 := by have := lt_of_getQ h1; lia
    have hne' : kqdOk 8 ((V.lst []).D H) = true := rfl
    have hneq' : (V.lst []).D H = (V.lst []).D H ↔ false = false := neV_false rfl
    have g3 := coh_get (t₀ := t₀) h3
    have g4 := coh_get (t₀ := t₀) h5
    have hin : ∀ {fz : Lg} {ρ : List Addr} {vs : List Value}, VRs fz ρ vs [.intP v3 (· = t₀ + v3.toNat), .intP v (· = t₀ + v.toNat)] → IntsAre vs [v3, v] := fun h => vr_coh (ns := [v3, v]) h
    have hany : ([v3, v].any (· == v)) = true := by simp
    have b3 : 3 < 1000000 := by lia
    have b4 : 4 < 1000000 := by lia
    have hvv : (v == v3) = false := by simpa using fun q => h4 q.symm
    walk_at "ts"
  | name h1 h2 h3 h4 h5 h6 h7 h8 h9 =>
    rename_i n k m v v3 v4
    refine MeetsA.le (lv := 2) ?_ (by lia)
    refine meets_defC (J := []) (lv := 1) (ps := [Str.ofString "label", Str.ofString "kids", Str.ofString "k"]) (ds := []) (dxs := []) (Nat.le_refl _) (by k_is) (by k_is) rfl .nil (by intro s vs hv X; (refine e31 (len3 hv) fun a b d q128_ => ?_; subst q128_); exact BindsTo.of_eq rfl) (by decide) (by rfl) id (fun _ => rfl) (Nat.le_refl _) (by rfl) ?_
    intro c hw hn hR hok hxs
    have hn1 : 1 ≤ c.n := Nat.le_of_eq hn.symm
    rw [List.append_nil, List.append_nil]
    subst hw
    have hlen : ks.length < 60 := by lia
    have hso := sortedKs hsort
    refine TS_next (TS1_acomp (H1 := H) (H2 := H) (xs := ks.map fun p => V.int (p.1 : Int)) (ys := (pairsOf' lab ks v).map fun (p : Nat) => V.int (p : Int)) (cl := ?clw) (own := []) [(Str.ofString "label", .lst (cohL t₀ lab)), (Str.ofString "k", .int (k : Int))] ?hxw ?hsww (ItR_of (KH := fun _ => True) ?itw walk_lst trivial) ?b1w ?cc1w ?d1w ?e1w ?f1w ?g1w ?hszw ?h1w) ?_
    case hsww => with_unfolding_all rfl
    case hxw => walk_at "store"
    case b1w => with_unfolding_all rfl
    case cc1w => rfl
    case d1w => decide
    case e1w => intro _; rfl
    case f1w => walk_at "cap"
    case g1w => exact fun C _ => OwnOk.nil
    case hszw => rw [sizeLine_eq, List.length_map]; lia
    case itw =>
      have e1 : (ks.map kidV).map (·.1) = ks.map fun p => (p.1 : Int) := by rw [List.map_map]; rfl
      have e2 : (ks.map fun p => V.int (p.1 : Int)) = ((ks.map kidV).map (·.1)).map V.int := by rw [e1, List.map_map]; rfl
      rw [e2]
      walk_at "te"
    case h1w =>
      intro C m
      have e3 : (pairsOf' lab ks v).map (fun (p : Nat) => V.int (p : Int)) = (ks.filter fun p => lab[p.1]? == some v).map fun p => V.int (p.1 : Int) := by unfold pairsOf'; rw [List.map_map]; rfl
      rw [e3]
      refine CmpR_filter trivial (fun p hp => ?_) _ (fun _ _ h => h)
      obtain ⟨u, hu⟩ : ∃ u, lab[p.1]? = some u := ⟨_, List.getElem?_eq_getElem (by have := hks p hp; lia)⟩
      have g1 := coh_get (t₀ := t₀) hu
      have g2 := coh_get (t₀ := t₀) h1
      have hb1 : p.1 < 1000000 := by have := hks p hp; lia
      have hb2 : k < 1000000 := by have := lt_of_getQ h1; lia
      have eq : (lab[p.1]? == some v) = (u == v) := by rw [hu]; rfl
      rw [eq]
      refine ⟨_, by walk_at "tas", by walk_at "ext", ?_, fun _ => by walk_at "te"⟩
      refine CTest.one ?_
      walk_at "tb"
    rw [h2, List.map_nil]
    have g1 := coh_get (t₀ := t₀) h1
    have hb2 : k < 1000000 := by have := lt_of_getQ h1; lia
    have hne' : kqdOk 8 ((V.lst []).D H) = true := rfl
    have hneq' : (V.lst []).D H = (V.lst []).D H ↔ false = false := neV_false rfl
    have g3 := coh_get (t₀ := t₀) h3
    have g4 := coh_get (t₀ := t₀) h5
    have hin : ∀ {fz : Lg} {ρ : List Addr} {vs : List Value}, VRs fz ρ vs [.intP v3 (· = t₀ + v3.toNat), .intP v4 (· = t₀ + v4.toNat)] → IntsAre vs [v3, v4] := fun h => vr_coh (ns := [v3, v4]) h
    have hany : ([v3, v4].any (· == v)) = false := by simp [h4, h6]
    have b3 : 3 < 1000000 := by lia
    have b4 : 4 < 1000000 := by lia
    walk_at "nx"
    walk_at "nx"
    have hxl : (Str.ofString "xyz").length = 3 := by decide
    have hr3 : 0 ≤ (m : Int) ∧ (m : Int) < ((Str.ofString "xyz").length : Int) ∧ (Str.ofString "xyz").length ≤ 16777216 := by
      rw [hxl]; lia
    rw [← xyz_item h7]
    refine' TS_ret (TS1_return (TE_sub (y := V.int (m : Int)) ?z1 ?z2 ?z3))
    case z1 => walk_at "te"
    case z3 => exact PO_itemS2 hr3 (by intro _ _; with_unfolding_all rfl)
    case z2 =>
      refine' TE_call (he := ?z4) (hp := ?z5) ?z6 ?z7 (TEs_cons (hs := ?z8) (TE_comp (H1 := H) (H2 := H) (xs := rngV 3) (ys := (((List.range 3).filter fun j => lab[j]? == some v).map fun (j : Nat) => (j : Int)).map V.int) (cl := ?y0) (own := []) [(Str.ofString "label", .lst (cohL t₀ lab)), (Str.ofString "k", .int (k : Int))] (ItR_range (n := 3) (m := 3) ?y1 ?y2 rfl (by decide) ?y3) ?y4 ?y5 ?y6 ?y7 ?y8 ?y9 ?y10 ?y11) TEs_nil) (PC_min (M := (m : Int)) ?x1 ?x2 ?x3)
      case z4 => with_unfolding_all rfl
      case z5 => with_unfolding_all rfl
      case z6 => walk_at "te"
      case z7 => walk_at "kept"
      case z8 => with_unfolding_all rfl
      case y1 => walk_at "te"
      case y2 => walk_at "te"
      case y3 => with_unfolding_all rfl
      case y4 => with_unfolding_all rfl
      case y5 => rfl
      case y6 => decide
      case y7 => intro _; rfl
      case y8 => walk_at "cap"
      case y9 => exact fun C _ => OwnOk.nil
      case y10 => rw [sizeLine_eq]; decide
      case y11 =>
        intro C mm
        rw [List.map_map]
        refine CmpR_filter trivial (fun j hj => ?_) _ (fun _ _ h => h)
        have hj3 : j < 3 := List.mem_range.mp hj
        obtain ⟨u, hu⟩ : ∃ u, lab[j]? = some u := ⟨_, List.getElem?_eq_getElem (by lia)⟩
        have gj := coh_get (t₀ := t₀) hu
        have gk := coh_get (t₀ := t₀) h1
        have hb1 : j < 1000000 := by lia
        have eq : (lab[j]? == some v) = (u == v) := by rw [hu]; rfl
        rw [eq]
        refine ⟨_, by walk_at "tas", by walk_at "ext", ?_, fun _ => by walk_at "te"⟩
        refine CTest.one ?_
        walk_at "tb"
      case x1 =>
        refine List.length_pos_of_mem (a := (m : Int)) (List.mem_map.mpr ⟨m, List.mem_filter.mpr ⟨List.mem_range.mpr h7, ?_⟩, rfl⟩)
        rw [h8]; simp
      case x2 =>
        refine List.mem_map.mpr ⟨m, List.mem_filter.mpr ⟨List.mem_range.mpr h7, ?_⟩, rfl⟩
        rw [h8]; simp
      case x3 =>
        intro a ha
        (refine e12 (List.mem_map.mp ha) fun j hj q129_ => ?_; subst q129_)
        have h2' := (List.mem_filter.mp hj).2
        have : m ≤ j := by
          (refine Or.elim (Nat.lt_or_ge j m) (fun z => ?_) (fun z => ?_))
          · exact absurd (by simpa using h2') (h9 j z)
          · exact z
        lia
end
section
theorem plain_lt {l : List Nat} (h : l.all plainCh = true) : ∀ c ∈ l, c < 128 := fun c hc => by
  have := List.all_eq_true.mp h c hc
  unfold plainCh at this
  simp at this; lia
theorem plain_lo1 {c : Nat} (h : plainCh c = true) : plainCh (lo1 c) = true := by
  unfold plainCh lo1 at *
  simp at h
  split <;> simp <;> lia
theorem lower_strL {l : List Nat} (h : l.all plainCh = true) : Txt.lower (strL l) = strL (l.map lo1) := by
  rw [lower_ascii (x := strL l) (fun c hc => plain_lt h c (by simpa using hc))]
  show (⟨l.toArray.map lo1⟩ : Str) = ⟨(l.map lo1).toArray⟩
  rw [List.map_toArray]
theorem okT_of {l : List Nat} (h : l.all plainCh = true) (hl : l.length ≤ 1000) : OkT (strL l) := by
  have e : ∀ l : List Nat, l.all plainCh = true → l.length ≤ 1000 → plainS (strL l) := fun l h hl => ⟨by show l.toArray.all plainCh = true; rw [List.all_toArray]; exact h, by rw [strL_len]; lia⟩
  refine ⟨by rw [strL_len]; exact hl, e l h hl, ?_⟩
  rw [lower_strL h]
  refine e _ ?_ (by rw [List.length_map]; exact hl)
  rw [List.all_map, List.all_eq_true]
  intro c hc; exact plain_lo1 (List.all_eq_true.mp h c hc)
noncomputable def leafTab : Nat → List (List Nat)
  | 0 => [[120], [88]]
  | 1 => [[121], [89]]
  | 2 => [[122], [90]]
  | 3 => [124, 33, 47].map fun m => [50, 50, 57, 41, 40, m, m, m, 50, 49, m, 41, 40, 41]
  | _ => [124, 33, 47].map fun m => [50, 50, 57, 41, 40, m, m, m, 50, 56, m, 41, 40, 41]
theorem leafS_tab {a : Nat} (h : a < 5) (b : Int) : ∃ l ∈ leafTab a, leafS (a : Int) b = strL l := by
  have h2 : b.fmod 2 = 0 ∨ b.fmod 2 = 1 := by rw [Int.fmod_eq_emod_of_nonneg _ (by lia)]; lia
  have h3 : b.fmod 3 = 0 ∨ b.fmod 3 = 1 ∨ b.fmod 3 = 2 := by rw [Int.fmod_eq_emod_of_nonneg _ (by lia)]; lia
  unfold leafS
  match a, h with
  | 0, _ => rw [if_pos (by decide)]; (refine Or.elim h2 (fun q => ?_) (fun q => ?_); rotate_left 1; try clear h2; rotate_right 1; try clear h2) <;> rw [q] <;> simp only [leafTab, List.mem_cons, List.not_mem_nil, or_false, exists_eq_or_imp, exists_eq_left] <;> decide
  | 1, _ => rw [if_pos (by decide)]; (refine Or.elim h2 (fun q => ?_) (fun q => ?_); rotate_left 1; try clear h2; rotate_right 1; try clear h2) <;> rw [q] <;> simp only [leafTab, List.mem_cons, List.not_mem_nil, or_false, exists_eq_or_imp, exists_eq_left] <;> decide
  | 2, _ => rw [if_pos (by decide)]; (refine Or.elim h2 (fun q => ?_) (fun q => ?_); rotate_left 1; try clear h2; rotate_right 1; try clear h2) <;> rw [q] <;> simp only [leafTab, List.mem_cons, List.not_mem_nil, or_false, exists_eq_or_imp, exists_eq_left] <;> decide
  | 3, _ => rw [if_neg (by decide)]; (refine Or.elim h3 (fun q => ?_) (fun o290_ => ?_); rotate_left 1; try clear h3; (refine Or.elim o290_ (fun q => ?_) (fun q => ?_); rotate_left 1; try clear o290_; rotate_right 1; try clear o290_); rotate_right 1; try clear h3) <;> rw [q] <;> simp only [leafTab, List.map_cons, List.map_nil, List.mem_cons, List.not_mem_nil, or_false, exists_eq_or_imp, exists_eq_left] <;> decide +kernel
  | 4, _ => rw [if_neg (by decide)]; (refine Or.elim h3 (fun q => ?_) (fun o291_ => ?_); rotate_left 1; try clear h3; (refine Or.elim o291_ (fun q => ?_) (fun q => ?_); rotate_left 1; try clear o291_; rotate_right 1; try clear o291_); rotate_right 1; try clear h3) <;> rw [q] <;> simp only [leafTab, List.map_cons, List.map_nil, List.mem_cons, List.not_mem_nil, or_false, exists_eq_or_imp, exists_eq_left] <;> decide +kernel
theorem tab_fact {a : Nat} (h : a < 5) : ∀ l ∈ leafTab a, l.all plainCh = true ∧ l.length ≤ 14 ∧ (strL l != lit "error_reply") = true := by
  match a, h with
  | 0, _ => decide +kernel
  | 1, _ => decide +kernel
  | 2, _ => decide +kernel
  | 3, _ => decide +kernel
  | 4, _ => decide +kernel
theorem rd_port {l : List Nat} {q0 q1 q2 q3 q4 : Str} {n L R : Int} (h0 : (strL l).length ≤ 1000) (h7 : has257 (strL l) = false) (h : (Txt.slice (strL l) none (some 3) != lit "229") = false) (hL : Txt.find (strL l) (lit "(") = L) (h1 : decide (L < 0) = false) (hR : Txt.find3 (strL l) (lit ")") (L + 1) = R) (h2 : decide (R < 0) = false)
    (h3 : 0 ≤ L + 1 ∧ L + 1 < ((strL l).length : Int)) (h4 : 0 ≤ R - 1 ∧ R - 1 < ((strL l).length : Int)) (h5 : (Txt.item (strL l) (L + 1) != Txt.item (strL l) (R - 1)) = false)
    (h6 : Txt.split (Txt.slice (strL l) (some (L + 1)) (some R)) (Txt.item (strL l) (L + 1)) = [q0, q1, q2, q3, q4]) (h9 : PySem.intText? q3 = some n) (hq : q3.length ≤ 640) : Rd (strL l) (.port n) := fun w H =>
  read_port h0 h7 fun w H => p229_ok (v := .none) (by lia) h hL h1 hR h2 ⟨h3.1, h3.2, by lia⟩ ⟨h4.1, h4.2, by lia⟩ h5 h6 h9 hq
theorem rd_name {l : List Nat} (h0 : (strL l).length ≤ 1000) (h7 : has257 (strL l) = false) (h : (Txt.slice (strL l) none (some 3) != lit "229") = true) : Rd (strL l) (.name (strL l)) := fun w H =>
  read_name h0 h7 fun w H => p229_X0 (by lia) h
theorem leaf_name {a : Nat} (h : a < 3) {l : List Nat} (hl : l ∈ leafTab a) : Rd (strL l) (.name (strL l)) ∧ l.length = 1 ∧ Txt.lower (strL l) = strL [120 + a] := by
  have hf := tab_fact (a := a) (by lia) l hl
  have q : l.length = 1 ∧ l.map lo1 = [120 + a] ∧ has257 (strL l) = false ∧ (Txt.slice (strL l) none (some 3) != lit "229") = true := by
    revert l
    match a, h with
    | 0, _ => intro l hl _; revert l hl; decide +kernel
    | 1, _ => intro l hl _; revert l hl; decide +kernel
    | 2, _ => intro l hl _; revert l hl; decide +kernel
  refine ⟨rd_name (by rw [strL_len]; lia) q.2.2.1 q.2.2.2, q.1, ?_⟩
  rw [lower_strL hf.1, q.2.1]
theorem leaf_num {a : Nat} (h3 : 3 ≤ a) (h : a < 5) {l : List Nat} (hl : l ∈ leafTab a) : Rd (strL l) (.port (7 * a)) ∧ l.length = 14 := by
  match a, h3, h with
  | 3, _, _ =>
    simp only [leafTab, List.map_cons, List.map_nil, List.mem_cons, List.not_mem_nil, or_false] at hl
    (refine Or.elim hl (fun o292_ => ?_) (fun o293_ => ?_); rotate_left 1; try clear hl; (refine Or.elim o293_ (fun o80_ => ?_) (fun o81_ => ?_); rotate_left 1; try clear o293_; subst o81_; rotate_right 1; try clear o293_; subst o80_); rotate_right 1; try clear hl; subst o292_) <;> exact ⟨rd_port (L := 4) (R := 11) (q0 := strL []) (q1 := strL []) (q2 := strL []) (q3 := strL [50, 49]) (q4 := strL []) (by decide +kernel) (by decide +kernel) (by decide +kernel) (by decide +kernel) (by decide +kernel) (by decide +kernel) (by decide +kernel) (by decide +kernel) (by decide +kernel) (by decide +kernel) (by decide +kernel) (by decide +kernel) (by decide +kernel), rfl⟩
  | 4, _, _ =>
    simp only [leafTab, List.map_cons, List.map_nil, List.mem_cons, List.not_mem_nil, or_false] at hl
    (refine Or.elim hl (fun o294_ => ?_) (fun o295_ => ?_); rotate_left 1; try clear hl; (refine Or.elim o295_ (fun o82_ => ?_) (fun o83_ => ?_); rotate_left 1; try clear o295_; subst o83_; rotate_right 1; try clear o295_; subst o82_); rotate_right 1; try clear hl; subst o294_) <;> exact ⟨rd_port (L := 4) (R := 11) (q0 := strL []) (q1 := strL []) (q2 := strL []) (q3 := strL [50, 56]) (q4 := strL []) (by decide +kernel) (by decide +kernel) (by decide +kernel) (by decide +kernel) (by decide +kernel) (by decide +kernel) (by decide +kernel) (by decide +kernel) (by decide +kernel) (by decide +kernel) (by decide +kernel) (by decide +kernel) (by decide +kernel), rfl⟩
theorem escL_plain {l : List Nat} (h : l.all plainCh = true) : (escL l).all plainCh = true := by
  induction l with
  | nil => rfl
  | cons a l ih =>
    rw [List.all_cons, Bool.and_eq_true] at h
    rw [escL_cons, List.all_append, ih h.2, Bool.and_true]
    split
    · rfl
    · rw [List.all_cons, h.1]; rfl
theorem pairL_plain {l r : List Nat} (hl : l.all plainCh = true) (hr : r.all plainCh = true) : (pairL l r).all plainCh = true := by
  unfold pairL
  simp only [List.all_append, escL_plain hl, escL_plain hr]
  decide
theorem pairL_len (l r : List Nat) : (pairL l r).length ≤ 9 + 2 * l.length + 2 * r.length := by
  unfold pairL
  have h1 := escL_len l
  have h2 := escL_len r
  have h3 := List.countP_le_length (p := (· == 34)) (l := l)
  have h4 := List.countP_le_length (p := (· == 34)) (l := r)
  simp; lia
theorem rd_pair {l r : List Nat} (hl : l.all plainCh = true) (h1 : l.length ≤ 200) (h2 : r.length ≤ 200) (hne : (strL l != lit "error_reply") = true) : Rd (pairS (strL l) (strL r)) (.pair (strL l) (strL r)) := fun w H => by
  rw [pairS_strL]
  refine read_pair (by have := pairL_len l r; lia) ?_ (by simpa using hne)
  show l.toArray.all (fun c => decide (c < 128)) = true
  rw [List.all_toArray, List.all_eq_true]
  intro c hc; simpa using plain_lt hl c hc
end
section
local macro_rules | `(tactic| walk_at "mth") => `(tactic| walk_at "!Mth_list a %F.slot_list_pop %F.type_list_pop ; a:as|Mth_list a %F.slot_list_extend %F.type_list_extend ; a:as|Mth_list a %F.slot_list_append %F.type_list_append ; a:as")
local macro_rules | `(tactic| walk_at "pc") => `(tactic| walk_at "!PC_pop q:as l:as|PC_extend q:as l:as|PC_append q:as l:as|PC_sortedD a:as b:as d:z31")
local macro_rules | `(tactic| walk_at "psl") => `(tactic| walk_at "!PSl_lst1' a:y11 d:z2")
local macro_rules | `(tactic| walk_at "po") => `(tactic| walk_at "!PO_neNil0 a:as u:room|PO_neNil1 a:as b:as u:room|PO_itemL j=j hi hx hj hs ; hi:u hx:as hj:as hs:z2|PO_itemD hi:as hx:as hs:z2|PO_itemO' j=j hH hi hx hj hs ; hH:as hi:u hx:r hj:d hs:z2")
local macro_rules | `(tactic| walk_at "ts1") => `(tactic| walk_at "!TS1_setD v a b hi hn hl m ; m:u v:te a:te b:te hi:as hn:as hl:as")
noncomputable def nodeOf (cs : Nat → Nat) (k : Nat) : Nat := if cs k < 5 then cs k else 5 + k
noncomputable def kidsUp (cs : Nat → Nat) : Nat → KT
  | 0 => []
  | j + 1 => kidsUp cs j ++ (if cs j < 5 then [] else [(5 + j, ((cs j - 5) / 5, (cs j - 5) % 5))])
noncomputable def nodesUp (cs : Nat → Nat) (j : Nat) : List V := (List.range j).map fun (k : Nat) => V.int (nodeOf cs k : Int)
theorem nodesUp_succ (cs : Nat → Nat) (j : Nat) : nodesUp cs (j + 1) = nodesUp cs j ++ [V.int (nodeOf cs j : Int)] := by unfold nodesUp; rw [List.range_succ, List.map_append]; rfl
theorem kidsUp_succ (cs : Nat → Nat) (j : Nat) : kidsUp cs (j + 1) = kidsUp cs j ++ (if cs j < 5 then [] else [(5 + j, ((cs j - 5) / 5, (cs j - 5) % 5))]) := rfl
theorem kidsUp_key {cs : Nat → Nat} : ∀ {j : Nat} {p : Nat × (Nat × Nat)}, p ∈ kidsUp cs j → ∃ k, k < j ∧ 5 ≤ cs k ∧ p = (5 + k, ((cs k - 5) / 5, (cs k - 5) % 5))
  | j + 1, p, h => by
    (refine Or.elim (List.mem_append.mp h) (fun h => ?_) (fun h => ?_))
    · (refine e12 (kidsUp_key h) fun k h1 h2 => ?_); exact ⟨k, by lia, h2⟩
    · split at h
      · cases h
      · exact ⟨j, by lia, by lia, List.mem_singleton.mp h⟩
theorem kidsUp_len {cs : Nat → Nat} : ∀ {j : Nat}, (kidsUp cs j).length ≤ j
  | 0 => Nat.le_refl _
  | j + 1 => by
    have := kidsUp_len (cs := cs) (j := j)
    unfold kidsUp; rw [List.length_append]; split <;> simp <;> lia
theorem kidsUp_srt {cs : Nat → Nat} : ∀ {j : Nat}, ((kidsUp cs j).map (·.1)).Pairwise (· < ·)
  | 0 => List.Pairwise.nil
  | j + 1 => by
    have ih := kidsUp_srt (cs := cs) (j := j)
    unfold kidsUp
    rw [List.map_append, List.pairwise_append]
    refine ⟨ih, ?_, ?_⟩
    · split
      · exact List.Pairwise.nil
      · exact List.pairwise_singleton _ _
    · intro a ha b hb
      (refine e12 (List.mem_map.mp ha) fun p hp q130_ => ?_; subst q130_)
      (refine e12 (List.mem_map.mp hb) fun q hq q131_ => ?_; subst q131_)
      (refine e13 (kidsUp_key hp) fun k h1 _ q132_ => ?_; subst q132_)
      split at hq
      · cases hq
      · rw [List.mem_singleton.mp hq]; dsimp only; lia
theorem kidsUp_ok {cs : Nat → Nat} (h : ∀ k, k < 4 → cs k < 30) : KsOk (kidsUp cs 4) := by
  refine ⟨fun p hp => ?_, kidsUp_srt, kidsUp_len⟩
  (refine e13 (kidsUp_key hp) fun k h1 h2 q133_ => ?_; subst q133_)
  have := h k h1
  dsimp only; lia
noncomputable abbrev pV (p : Nat × Nat) : V := .tup [.int (p.1 : Int), .int (p.2 : Int)]
noncomputable def gP : KT → KT → List (Nat × Nat)
  | [], _ => []
  | p :: _, r => r.flatMap fun q => [(p.2.1, q.2.1), (p.2.2, q.2.2)]
theorem gP_init (P : KT) : gP P (P.drop 1) = addsOf P := by cases P <;> rfl
noncomputable abbrev codesV (cs : Nat → Nat) : V := .lst ((List.range 4).map fun (k : Nat) => V.int (cs k : Int))
noncomputable def clV (cs : Nat → Nat) (n : Nat) (more : Vars) : Vars := (Str.ofString "codes", codesV cs) :: (Str.ofString "kids", .obj n) :: (Str.ofString "nodes", .obj (n + 1)) :: more
noncomputable def clW (cs : Nat → Nat) (n : Nat) (l : V) (more : Vars) : Vars := clV cs n ((Str.ofString "label", l) :: (Str.ofString "todo", .obj (n + 2)) :: more)
noncomputable def clH (H : List MO) (cs : Nat → Nat) (j : Nat) (more : List MO) : List MO := H ++ .dict ((kidsUp cs j).map kidV) :: .list (nodesUp cs j) :: more
noncomputable def clR (cs : Nat → Nat) (n t₀ : Nat) (lab : List Int) (one two : Nat) (mine old : Int) (more : Vars) : Vars := clW cs n (.lst (cohL t₀ lab)) ((Str.ofString "one", .int (one : Int)) :: (Str.ofString "two", .int (two : Int)) :: (Str.ofString "mine", .intP mine (· = t₀ + mine.toNat)) :: (Str.ofString "old", .intP old (· = t₀ + old.toNat)) :: more)
noncomputable def clWS (cs : Nat → Nat) (n : Nat) (x : List Int × List (Nat × Nat)) : Vars := clW cs n (.lstC x.1) []
noncomputable def clHS (H : List MO) (cs : Nat → Nat) (x : List Int × List (Nat × Nat)) : List MO := clH H cs 4 [.list (x.2.map pV)]
def clI (cs : Nat → Nat) (lab' : List Int) (n : Nat) (x : List Int × List (Nat × Nat)) : Prop := Cls (kidsUp cs 4) x.1 n x.2 lab' ∧ x.1.length = 9
def clI2 (P r1 : KT) (dn : List (Nat × Nat)) : Prop := (∀ q ∈ r1, q ∈ P) ∧ dn ++ gP P r1 = addsOf P
def rngI (n : Nat) (l : List Nat) (j : Nat) : Prop := j ≤ n ∧ l = List.range' j (n - j)
theorem rng_cons {a j n : Nat} {l : List Nat} (h : a :: l = List.range' j (n - j)) : a = j ∧ j < n ∧ l = List.range' (j + 1) (n - (j + 1)) := by
  refine Or.elim (Nat.lt_or_ge j n) (fun z => ?_) (fun z => ?_)
  · rw [show n - j = (n - (j + 1)) + 1 by lia, List.range'_succ] at h
    injection h with h1 h2
    exact ⟨h1, z, h2⟩
  · rw [Nat.sub_eq_zero_of_le z] at h; exact cn h
theorem rng_nil {j n : Nat} (h : [] = List.range' j (n - j)) (hj : j ≤ n) : j = n := by
  refine Or.elim (Nat.lt_or_ge j n) (fun z => ?_) (fun z => Nat.le_antisymm hj z)
  rw [show n - j = (n - (j + 1)) + 1 by lia, List.range'_succ] at h
  exact nc h
theorem TS_eqH {ss : List Stmt} {f : Fl} {vars1 : Vars} (h : TS c e vars H ss f vars1 H2) (q : H2 = H3) : TS c e vars H ss f vars1 H3 := q ▸ h
inductive ClsO (ks : KT) (lab : List Int) (n : Nat) (td : List (Nat × Nat)) (lab' : List Int) : Prop
  | stop : td = [] → lab' = lab → ClsO ks lab n td lab'
  | go (m : Nat) (td0 : List (Nat × Nat)) (one two : Nat) (mine old : Int) (lab1 : List Int) (add : List (Nat × Nat)) : n = m + 1 → td = td0 ++ [(one, two)] → td0.length + 1 ≤ 500 → lab[one]? = some mine → lab[two]? = some old → Cls ks lab1 m (td0 ++ add) lab' →
    ((mine = old ∧ lab1 = lab ∧ add = []) ∨ (mine ≠ old ∧ lab1 = lab.map (fun x => if x = old then mine else x) ∧ add = addsOf (inCls ks lab1 mine))) → ClsO ks lab n td lab'
theorem Cls.openE {ks : KT} {lab lab' : List Int} {n : Nat} {td : List (Nat × Nat)} (h : Cls ks lab n td lab') : ClsO ks lab n td lab' := by
  cases h with
  | nil => exact .stop rfl rfl
  | same h1 h2 h3 h4 => exact .go _ _ _ _ _ _ _ [] rfl rfl h1 h2 h3 (by rw [List.append_nil]; exact h4) (.inl ⟨rfl, rfl, rfl⟩)
  | merge h1 h2 h3 h4 h5 => exact .go _ _ _ _ _ _ _ _ rfl rfl h1 h2 h3 h5 (.inr ⟨h4, rfl, rfl⟩)
theorem clH_app {cs : Nat → Nat} {j : Nat} {x : MO} : clH H cs j [x] = clH H cs j [] ++ [x] := by unfold clH; rw [List.append_assoc]; rfl
theorem set_at (H l : List MO) (i : Nat) (x : MO) : (H ++ l).set (H.length + i) x = H ++ l.set i x := by rw [List.set_append_right _ _ (Nat.le_add_right _ _), Nat.add_sub_cancel_left]
theorem classes_m {w : World} {n : Nat} {cs : Nat → Nat} {lab' : List Int} (hcs : ∀ k, k < 4 → cs k < 30) (hC : Cls (kidsUp cs 4) (labL fun n => (n : Int)) n [(nodeOf cs 0, nodeOf cs 2), (nodeOf cs 1, nodeOf cs 3)] lab') :
    Meets w 3 1 (.ref 377) [codesV cs] H (.tup [.lstC lab', .obj H.length]) (H ++ [.dict ((kidsUp cs 4).map kidV)]) := by
  refine meets_defC (J := [.list (nodesUp cs 4), .list []]) (lv := 2) (ps := [Str.ofString "codes"]) (ds := []) (dxs := []) (Nat.le_refl _) (by k_is) (by k_is) rfl .nil (by intro s vs hv X; (refine Exists.elim (len1 hv) fun a q134_ => ?_; subst q134_); exact BindsTo.of_eq rfl) (by decide) (by rfl) ?hlt ?hr (by simp) (by rfl) ?_
  case hlt =>
    intro hok
    refine hok.snoc ?_
    show Vs.lt _ (((kidsUp cs 4).map kidV).map (·.2)) = true
    rw [Vs.lt_iff, List.map_map]
    intro x hx
    (refine e12 (List.mem_map.mp hx) fun p _ q135_ => ?_; subst q135_)
    rfl
  case hr =>
    intro _
    show (true && (decide (H.length < (H ++ [_]).length) && true)) = true
    simp
  intro c hw hn hR hok hxs
  have hn1 : 1 ≤ c.n := Nat.le_of_eq hn.symm
  subst hw
  rw [show H ++ [MO.dict ((kidsUp cs 4).map kidV)] ++ [.list (nodesUp cs 4), .list []] = clH H cs 4 [.list []] from by simp [clH]]
  refine TS_next (TS1_assign (v := .obj H.length) (H1 := H ++ [.dict []]) (TE_dict0 ⟨_, _, _, _, by k_is⟩) (by walk_at "store") (by with_unfolding_all rfl)) ?_
  have hl1 : (H ++ [MO.dict []]).length = H.length + 1 := by simp
  refine TS_next (TS1_assign (v := .obj (H.length + 1)) (H1 := H ++ [.dict [], .list []]) ?nl (by walk_at "store") (by with_unfolding_all rfl)) ?_
  case nl =>
    rw [show H ++ [MO.dict [], MO.list []] = (H ++ [MO.dict []]) ++ [MO.list []] from by simp, ← hl1]
    refine TE_listM ?_ ?_
    · walk_at "tes"
    · rw [sizeLine_eq]; simp
  refine TS_forS (f := fun (k : Nat) => V.int (k : Int)) (VS := fun (_ : Nat) => clV cs H.length []) (HS := fun (j : Nat) => clH H cs j []) (l0 := List.range' 0 4) (x0 := 0) (KH := fun _ => True) (rngI 4)
    ?itA ⟨by decide, rfl⟩ (fun _ _ _ => trivial) (fun _ => rfl) ?_ ?_
  case itA =>
    show ItR _ _ (clV cs H.length []) (H ++ [.dict [], .list []]) _ _ (rngV 4) _ (H ++ [.dict [], .list []])
    exact ItR_range (n := 4) (m := 4) (by walk_at "te") (by walk_at "te") rfl (by decide) (by with_unfolding_all rfl)
  · intro a l j hI
    refine e03 (rng_cons hI.2) fun ea hj4 el => ?_
    have ea := ea.symm
    clear hI; subst ea
    have hc30 := hcs j hj4
    have gj : ((List.range 4).map fun (k : Nat) => V.int (cs k : Int))[j]? = some (.int (cs j : Int)) := by rw [List.getElem?_map, List.getElem?_range hj4]; rfl
    have hj6 : j < 1000000 := by lia
    have g1 : (clH H cs j [])[H.length + 1]? = some (.list (nodesUp cs j)) := get_at _ _ 1 rfl
    have hll : (nodesUp cs j).length ≤ 1000 := by simp [nodesUp]; lia
    have eS : ∀ b, (clH H cs j []).set (H.length + 1) (.list b) = H ++ [MO.dict ((kidsUp cs j).map kidV), .list b] := fun b => set_at H _ 1 _
    by_cases h5 : cs j < 5
    · have hb1 : decide ((cs j : Int) < 5) = true := by simp; lia
      have hb2 : decide ((cs j : Int) ≥ 5) = false := by simp; lia
      refine' .go (j + 1) ⟨hj4, el⟩ ?tas (TS_eqH ?ts ?heq) ?pre
      case tas => walk_at "tas"
      case ts => show TS _ _ _ (clH H cs j []) _ _ _ _; walk_at "ts"
      case pre => exact fun y v hl => lookup_pre hl
      case heq =>
        rw [eS]; unfold clH; rw [nodesUp_succ, show nodeOf cs j = cs j from if_pos h5]
        rw [kidsUp_succ, if_pos h5, List.append_nil]
    · have hb1 : decide ((cs j : Int) < 5) = false := by simp; lia
      have hb2 : decide ((cs j : Int) ≥ 5) = true := by simp; lia
      have gd : ((clH H cs j []).set (H.length + 1) (.list (nodesUp cs j ++ [V.int (5 + (j : Int))])))[H.length]? = some (.dict ((kidsUp cs j).map kidV)) := by rw [eS]; exact get_at _ _ 0 rfl
      have hnew : (5 + (j : Int)) ∉ ((kidsUp cs j).map kidV).map (·.1) := fun hm => by
        rw [List.map_map] at hm
        (refine e12 (List.mem_map.mp hm) fun p hp e => ?_)
        (refine e13 (kidsUp_key hp) fun k hk1 _ q138_ => ?_; subst q138_)
        have e' : ((5 + k : Nat) : Int) = 5 + (j : Int) := e
        lia
      have hdl : ((kidsUp cs j).map kidV).length ≤ 1000 := by rw [List.length_map]; have := kidsUp_len (cs := cs) (j := j); lia
      refine' .go (j + 1) ⟨hj4, el⟩ ?tas (TS_eqH ?ts ?heq) ?pre
      case tas => walk_at "tas"
      case ts => show TS _ _ _ (clH H cs j []) _ _ _ _; walk_at "ts"
      case pre => exact fun y v hl => lookup_pre hl
      case heq =>
        rw [eS]; unfold clH; rw [nodesUp_succ, show nodeOf cs j = 5 + j from if_neg h5]
        rw [kidsUp_succ, if_neg h5, List.map_append]
        have e1 := div5 h5
        have e2 := mod5 h5
        rw [e1, e2]
        have e3 : ((5 + j : Nat) : Int) = 5 + (j : Int) := by lia
        rw [e3]
        show (H ++ [_, _]).set (H.length + 0) _ = _
        rw [List.set_append_right _ _ (by lia), Nat.add_sub_cancel_left]
        show H ++ [_, _] = H ++ [_, _]
        rw [← e3]; rfl
  · intro j hI
    have : j = 4 := rng_nil hI.2 hI.1
    subst this
    clear hI
    have gN : (clH H cs 4 [])[H.length + 1]? = some (.list (nodesUp cs 4)) := get_at _ _ 1 rfl
    have elb : (List.range 9).map (fun (j : Nat) => (j : Int)) = labL fun n => (n : Int) := rfl
    refine TS_next (TS1_assign (v := .lstC (labL fun n => (n : Int))) (H1 := clH H cs 4 []) (TE_listrange (r := fun _ => True) ?r1 ?r2 ?r3 (m := 9) (n := 9) rfl (by decide) ?r4 ?r5) (by walk_at "store") (by with_unfolding_all rfl)) ?_
    case r1 => walk_at "te"
    case r2 => walk_at "te"
    case r3 => walk_at "te"
    case r4 => with_unfolding_all rfl
    case r5 => with_unfolding_all rfl
    have hl2 : (clH H cs 4 []).length = H.length + 2 := by simp [clH]
    refine TS_next (TS1_assign (v := .obj (H.length + 2)) (H1 := clH H cs 4 [.list [.tup [.int (nodeOf cs 0 : Int), .int (nodeOf cs 2 : Int)], .tup [.int (nodeOf cs 1 : Int), .int (nodeOf cs 3 : Int)]]]) ?nt (by walk_at "store") (by with_unfolding_all rfl)) ?_
    case nt =>
      rw [clH_app, ← hl2]
      refine TE_listM ?_ ?_
      · walk_at "tes"
      · rw [sizeLine_eq]; simp
    have gT : ∀ a : List V, (clH H cs 4 [.list a])[H.length + 2]? = some (.list a) := fun a => get_at _ _ 2 rfl
    have gD : ∀ a : List V, (clH H cs 4 [.list a])[H.length]? = some (.dict ((kidsUp cs 4).map kidV)) := fun a => get_at _ _ 0 rfl
    have eP : ∀ a b : List V, (clH H cs 4 [.list a]).set (H.length + 2) (.list b) = clH H cs 4 [.list b] := fun a b => set_at H _ 2 _
    refine TS_whileS (VS := clWS cs H.length) (HS := clHS H cs) (clI cs lab') (fun x => x = (lab', [])) n (labL fun n => (n : Int), [(nodeOf cs 0, nodeOf cs 2), (nodeOf cs 1, nodeOf cs 3)]) ⟨hC, by simp [labL]⟩ ?_ ?_
    · intro n x hI
      cases x with
      | mk lab td =>
      cases Cls.openE hI.1 with
      | stop e1 e2 =>
        subst e1 e2
        have g0 := gT []
        exact .stop (by show TB _ _ (clW cs H.length (.lstC _) []) (clH H cs 4 [.list []]) _ _ (clH H cs 4 [.list []]); walk_at "tb") rfl
      | go m td0 one two mine old lab1 add en etd h1 h2 h3 h4 h5 =>
        have h9 : lab.length = 9 := hI.2
        clear hI
        subst en
        replace etd : td = td0 ++ [(one, two)] := etd
        subst etd
        have g0 := gT (td0.map pV ++ [pV (one, two)])
        have hq : ∀ y ∈ td0.map pV ++ [pV (one, two)], kqdOk 7 y.D0 = true := by
          rw [show td0.map pV ++ [pV (one, two)] = (td0 ++ [(one, two)]).map pV by simp]
          intro y hy
          (refine e12 (List.mem_map.mp hy) fun z _ q145_ => ?_; subst q145_)
          rfl
        have hl0 : (td0.map pV).length + 1 ≤ sizeLine := by rw [sizeLine_eq, List.length_map]; lia
        have h9' : lab1.length = 9 := by
          (refine Or.elim h5 (fun o298_ => ?_) (fun o299_ => ?_); rotate_left 1; try clear h5; (refine e03 o299_ fun _ q38_ _ => ?_; try clear o299_; subst q38_); rotate_right 1; try clear h5; (refine e03 o298_ fun _ q39_ _ => ?_; try clear o298_; subst q39_))
          · exact h9
          · rw [List.length_map]; exact h9
        refine .go (lab1, td0 ++ add) m (Nat.lt_succ_self _) ⟨h4, h9'⟩ ?tb0 ?body
        all_goals rw [show clHS H cs (lab, td0 ++ [(one, two)]) = clH H cs 4 [.list (td0.map pV ++ [pV (one, two)])] from by unfold clHS; rw [List.map_append]; rfl]
        case tb0 => show TB _ _ (clW cs H.length (.lstC _) []) (clH H cs 4 [.list (td0.map pV ++ [pV (one, two)])]) _ _ (clH H cs 4 [.list (td0.map pV ++ [pV (one, two)])]); walk_at "tb"
        case body =>
        show TS _ _ (clW cs H.length (.lstC lab) []) _ _ _ (clW cs H.length (.lstC lab1) []) (clH H cs 4 [.list ((td0 ++ add).map pV)])
        refine Tri.openC (x := Str.ofString "label") (xs := lab) rfl fun t₀ h0 => ?_
        refine TS_weak (Tri.closeC (x := Str.ofString "label") (xs := lab1) h0 (vars1 := (clW cs H.length (.lst (cohL t₀ lab1)) [])) ?main rfl) ?wk
        case wk => exact fun y v hl => hl
        have gone := coh_get (t₀ := t₀) h2
        have gtwo := coh_get (t₀ := t₀) h3
        have hb1 : one < 1000000 := by have := lt_of_getQ h2; lia
        have hb2 : two < 1000000 := by have := lt_of_getQ h3; lia
        refine TS_next (vars' := (clW cs H.length (.lst (cohL t₀ lab)) [(Str.ofString "one", .int (one : Int)), (Str.ofString "two", .int (two : Int))])) (H1 := clH H cs 4 [.list (td0.map pV)]) ?pop ?_
        case pop =>
          rw [← eP (td0.map pV ++ [pV (one, two)]) (td0.map pV)]
          refine' TS1_weak ?w1 ?w2
          case w1 => walk_at "ts1"
          case w2 => with_unfolding_all exact fun y v h => h
        (refine Or.elim h5 (fun o300_ => ?_) (fun o301_ => ?_); rotate_left 1; try clear h5; (refine e03 o301_ fun e1 hl1 hadd => ?_; try clear o301_); rotate_right 1; try clear h5; (refine e03 o300_ fun e1 q40_ q41_ => ?_; try clear o300_; subst q40_; subst q41_))
        · have hne : (mine != old) = false := by simp [e1]
          rw [List.append_nil]
          refine' TS_weak ?w3 ?w4
          case w3 => walk_at "ts"
          case w4 => exact fun y v hl => lookup_pre hl
        · have hne : (mine != old) = true := by simpa using e1
          refine' TS_next (vars' := (clW cs H.length (.lst (cohL t₀ lab1)) [])) (TS1_ifB (q := (mine != old)) ?ta (BrS.t hne ?tbody)) ?tend
          case tend => exact TS_nil
          case ta => walk_at "tb"
          case tbody =>
            refine TS_next (vars' := (clR cs H.length t₀ lab one two mine old [])) (H1 := clH H cs 4 [.list (td0.map pV)]) ?sw ?_
            case sw =>
              refine' TS1_weak ?w5 ?w6
              case w5 => walk_at "ts1"
              case w6 => with_unfolding_all exact fun y v h => h
            refine TS_next (TS1_assign (v := .lst (lab.map fun v => V.intP (if v = old then mine else v) (· = t₀ + (if v = old then mine else v).toNat))) (H1 := clH H cs 4 [.list (td0.map pV)]) (TE_comp (H1 := clH H cs 4 [.list (td0.map pV)]) (xs := lab.map fun v => V.intP v (· = t₀ + v.toNat)) (cl := ?cl) (own := []) [(Str.ofString "mine", .intP mine (· = t₀ + mine.toNat)), (Str.ofString "old", .intP old (· = t₀ + old.toNat))] (ItR_of (KH := fun _ => True) ?it walk_lst trivial) ?b1 ?cc1 ?d1 ?e1 ?f1 ?g1 ?hsz ?h1) ?hx ?hsw) ?_
            case hsw => with_unfolding_all rfl
            case hx => walk_at "store"
            case b1 => with_unfolding_all rfl
            case cc1 => rfl
            case d1 => decide
            case e1 => intro _; rfl
            case f1 => walk_at "cap"
            case g1 => exact fun C _ => OwnOk.nil
            case hsz => rw [sizeLine_eq, List.length_map]; lia
            case it => walk_at "te"
            case h1 =>
              intro C mm
              refine CmpR_map trivial fun v hv => ?_
              by_cases q : v = old
              · subst q
                have hvo : (v == v) = true := by simp
                rw [if_pos rfl]
                exact ⟨_, by walk_at "tas", by walk_at "ext", by walk_at "te"⟩
              · have hvo : (v == old) = false := by simpa using q
                rw [if_neg q]
                exact ⟨_, by walk_at "tas", by walk_at "ext", by walk_at "te"⟩
            have ecoh : (lab.map fun v => V.intP (if v = old then mine else v) (· = t₀ + (if v = old then mine else v).toNat)) = cohL t₀ lab1 := by rw [hl1, cohL, List.map_map]; rfl
            rw [ecoh]
            have hso := sortedKs (kidsUp_srt (cs := cs) (j := 4))
            have hkl := kidsUp_len (cs := cs) (j := 4)
            have hlen : (kidsUp cs 4).length < 60 := by lia
            have hkk : ∀ p ∈ kidsUp cs 4, p.1 < 9 := fun p hp => ((kidsUp_ok hcs).key p hp).2.1
            have gd0 := gD (td0.map pV)
            refine TS_next (TS1_acomp (H1 := clH H cs 4 [.list (td0.map pV)]) (H2 := clH H cs 4 [.list (td0.map pV)]) (xs := (kidsUp cs 4).map fun p => V.int (p.1 : Int)) (ys := (inCls (kidsUp cs 4) lab1 mine).map fun p => V.int (p.1 : Int)) (cl := ?clq) (own := []) [(Str.ofString "label", .lst (cohL t₀ lab1)), (Str.ofString "mine", .intP mine (· = t₀ + mine.toNat))] ?hxq ?hswq (ItR_of (KH := fun _ => True) ?itq walk_lst trivial) ?b1q ?cc1q ?d1q ?e1q ?f1q ?g1q ?hszq ?h1q) ?_
            case hswq => with_unfolding_all rfl
            case hxq => walk_at "store"
            case b1q => with_unfolding_all rfl
            case cc1q => rfl
            case d1q => decide
            case e1q => intro _; rfl
            case f1q => walk_at "cap"
            case g1q => exact fun C _ => OwnOk.nil
            case hszq => rw [sizeLine_eq, List.length_map]; lia
            case itq =>
              have e1 : ((kidsUp cs 4).map kidV).map (·.1) = (kidsUp cs 4).map fun p => (p.1 : Int) := by rw [List.map_map]; rfl
              have e2 : ((kidsUp cs 4).map fun p => V.int (p.1 : Int)) = (((kidsUp cs 4).map kidV).map (·.1)).map V.int := by rw [e1, List.map_map]; rfl
              rw [e2]
              walk_at "te"
            case h1q =>
              intro C mm
              refine CmpR_filter trivial (fun p hp => ?_) _ (fun _ _ h => h)
              obtain ⟨u, hu⟩ : ∃ u, lab1[p.1]? = some u := ⟨_, List.getElem?_eq_getElem (by have := hkk p hp; lia)⟩
              have g1 := coh_get (t₀ := t₀) hu
              have hb1 : p.1 < 1000000 := by have := hkk p hp; lia
              have eq : (lab1[p.1]? == some mine) = (u == mine) := by rw [hu]; rfl
              rw [eq]
              refine ⟨_, by walk_at "tas", by walk_at "ext", ?_, fun _ => by walk_at "te"⟩
              refine CTest.one ?_
              walk_at "tb"
            have hPm : ∀ p ∈ inCls (kidsUp cs 4) lab1 mine, p ∈ kidsUp cs 4 := fun p hp => (List.mem_filter.mp hp).1
            have hPl : (inCls (kidsUp cs 4) lab1 mine).length ≤ 4 := Nat.le_trans (List.length_filter_le _ _) hkl
            have hal := adds_len (inCls (kidsUp cs 4) lab1 mine)
            rw [hadd]
            generalize inCls (kidsUp cs 4) lab1 mine = P at *
            have hsz4 : (P.map fun p => V.int (p.1 : Int)).length ≤ sizeLine := by rw [sizeLine_eq, List.length_map]; lia
            refine TS_forS (f := fun (p : Nat × Nat × Nat) => V.int (p.1 : Int)) (VS := fun (_ : List (Nat × Nat)) => clR cs H.length t₀ lab1 one two mine old [(Str.ofString "pairs", .lst (P.map fun p => V.int (p.1 : Int)))]) (HS := fun (dn : List (Nat × Nat)) => clH H cs 4 [.list ((td0 ++ dn).map pV)]) (l0 := P.drop 1) (x0 := []) (KH := fun _ => True) (clI2 P)
              ?it0 ⟨fun q hq => List.mem_of_mem_drop hq, by rw [List.nil_append]; exact gP_init P⟩ (fun _ _ _ => trivial) (fun _ => rfl) ?_ ?_
            case it0 =>
              rw [List.append_nil, List.map_drop]
              exact ItR_of (KH := fun _ => True) (by walk_at "te") walk_lst trivial
            · intro q r1 dn hI
              have hr1 := hI.1
              have hg := hI.2
              clear hI
              have hqP := hr1 q (.head _)
              cases P with
              | nil => cases hqP
              | cons p0 P' =>
                have hqk := hPm q hqP
                have hpk := hPm p0 (.head _)
                (refine Exists.elim (List.getElem?_of_mem hqk) fun jq hjq => ?_)
                (refine Exists.elim (List.getElem?_of_mem hpk) fun jp hjp => ?_)
                have hesq : ((kidsUp cs 4).map kidV)[jq]? = some ((q.1 : Int), .tup [.int (q.2.1 : Int), .int (q.2.2 : Int)]) := by rw [List.getElem?_map, hjq]; rfl
                have hesp : ((kidsUp cs 4).map kidV)[jp]? = some ((p0.1 : Int), .tup [.int (p0.2.1 : Int), .int (p0.2.2 : Int)]) := by rw [List.getElem?_map, hjp]; rfl
                have gd1 := gD ((td0 ++ dn).map pV)
                have g1 := gT ((td0 ++ dn).map pV)
                have hll : ((td0 ++ dn).map pV).length + [pV (p0.2.1, q.2.1), pV (p0.2.2, q.2.2)].length ≤ 1000 := by
                  have := congrArg List.length hg
                  rw [List.length_append] at this
                  rw [List.length_map, List.length_append]; simp only [List.length_cons, List.length_nil] at *; lia
                have hx0 : ((p0 :: P').map fun p => V.int (p.1 : Int))[0]? = some (.int (p0.1 : Int)) := rfl
                have h06 : 0 < 1000000 := by decide
                refine' .go (dn ++ [(p0.2.1, q.2.1), (p0.2.2, q.2.2)]) ⟨fun a ha => hr1 a (.tail _ ha), ?hgg⟩ ?tas (TS_eqH ?ts ?heq) ?pre
                case hgg => rw [← hg, List.append_assoc]; rfl
                case tas => walk_at "tas"
                case ts => show TS _ _ _ (clH H cs 4 [.list ((td0 ++ dn).map pV)]) _ _ _ _; walk_at "ts"
                case pre => exact fun y v hl => lookup_pre hl
                case heq => rw [eP, ← List.append_assoc, List.map_append (l₁ := td0 ++ dn)]; rfl
            · intro dn hI
              have hg := hI.2
              have e : gP P [] = [] := by cases P <;> rfl
              rw [e, List.append_nil] at hg
              rw [hg]
              exact TS_weak TS_nil fun y v hl => lookup_pre hl
    · intro x hx
      subst hx
      show TS _ _ (clW cs H.length (.lstC lab') []) (clH H cs 4 [.list []]) _ _ _ _
      walk_at "ts"
end
section
set_option genInjectivity false in
structure Lw (w : World) where
  name : Str
  qual : Str
  params : Arguments
  body : List Stmt
  scope : Scope
  dV : Value
  kV : Value
  doc : Value
  pm : Value
  an : Option Addr
  cdv : Value
  ct : Value
  oc : Value
  od : Option Addr
  osl : Array (Option Value)
  ok : (top0.heap_1 w.params).lookup 387 = some ⟨oc, od, .func (fnOf name qual params body scope dV kV doc pm an cdv ct), osl⟩
noncomputable def lawL (w : World) : Lw w := ⟨_, _, _, _, _, _, _, _, _, _, _, _, _, _, _, by k_is⟩
noncomputable abbrev lawC (c : Amb) : Amb := c.atC (lawL c.w).name (lawL c.w).scope
noncomputable abbrev lawE (c : Amb) : Sc := ⟨(lawC c).env, cellNames (lawL c.w).scope.names⟩
theorem lookup_sub {l1 l : Vars} (h : ∀ p ∈ l1, l.lookup p.1 = some p.2) : ∀ y v, l1.lookup y = some v → l.lookup y = some v := by
  intro y v q
  have : (y, v) ∈ l1 := by
    clear h
    induction l1 with
    | nil => simp at q
    | cons p l1 ih =>
      obtain ⟨a, b⟩ := p
      rw [List.lookup_cons] at q
      split at q
      · rename_i e
        (replace q := Option.some.inj q; subst q)
        rw [beq_iff_eq.mp e]; exact .head _
      · exact .tail _ (ih q)
  exact h _ this
noncomputable def cellsUp (ns : List Int) (l : List Int) : Nat → List Int
  | 0 => l
  | p + 1 => (cellsUp ns l p).set (p % 5) ((cellsUp ns l p).getD (p % 5) 0 + ns.getD p 0)
theorem cellsUp_len (ns l : List Int) : ∀ p, (cellsUp ns l p).length = l.length
  | 0 => rfl
  | p + 1 => by
    have := cellsUp_len ns l p
    show ((cellsUp ns l p).set _ _).length = _
    rw [List.length_set, this]
noncomputable abbrev cellsAt (ns : List Int) : List Int := cellsUp ns [0, 1, 12, 19, 0] ns.length
local macro_rules | `(tactic| walk_at "ts1") => `(tactic| walk_at "!TS1_augL a b hi hk hx hl d p q ; q:z33 a:te b:te hi:as hk:as hx:as hl:as d:te p:po")
local macro_rules | `(tactic| walk_at "po") => `(tactic| walk_at "!PO_itemB j=j hb hI hi hx hj hs ; hb:as hI:as hi:u hx:as hj:as hs:z2")
local macro_rules | `(tactic| walk_at "pc") => `(tactic| walk_at "!PC_lenB a:as b:as")
theorem law_1 {c : Amb} {a : Addr} {vs : List Value} {ns : List Int} {vars'' : Vars} {f : Fl} {H'' : List MO} (hn1 : 1 ≤ c.n) (hb : c.base.IsList a vs.toArray) (hI : IntsAre vs ns) (hlen : ns.length ≤ 63)
    (k : TS (lawC c) (lawE c) [(Str.ofString "script", .con (.ref a)), (Str.ofString "cells", .obj 0)] [.list ((cellsAt ns).map V.int)] ((lawL c.w).body.drop 2) f vars'' H'') :
    TS (lawC c) (lawE c) [(Str.ofString "script", .con (.ref a))] [] (lawL c.w).body f vars'' H'' := by
  unfold lawC lawE at *
  dsimp only [lawL, List.drop] at k ⊢
  refine TS_next (TS1_assign (v := .obj 0) (H1 := [.list [.int 0, .int 1, .int 12, .int 19, .int 0]]) ?_ (by walk_at "store") (by with_unfolding_all rfl)) ?_
  · refine TE_listM (H1 := []) ?_ ?_
    · walk_at "tes"
    · rw [sizeLine_eq]; simp
  have hvl : vs.length = ns.length := by have := (ints_vr (fz := []) (ρ := []) hI).length; rw [this, List.length_map]
  have hvl2 : vs.length ≤ 1000 := by lia
  have hmn : (vs.length : Int) = (ns.length : Int) := by rw [hvl]
  refine TS_forI (H1 := [.list [.int 0, .int 1, .int 12, .int 19, .int 0]]) (KH := fun _ => True) (fun xs us H' => ∃ j, j ≤ ns.length ∧ xs = (List.range' j (ns.length - j)).map (fun (k : Nat) => V.int (k : Int)) ∧ H' = [.list ((cellsUp ns [0, 1, 12, 19, 0] j).map V.int)] ∧ us = [(Str.ofString "script", .con (.ref a)), (Str.ofString "cells", .obj 0)])
    (fun us H' => H' = [.list ((cellsAt ns).map V.int)] ∧ us = [(Str.ofString "script", .con (.ref a)), (Str.ofString "cells", .obj 0)])
    (ItR_range (n := ns.length) (by walk_at "te") (by walk_at "te") hmn (by lia) (by with_unfolding_all rfl)) ⟨0, Nat.zero_le _, by rw [Nat.sub_zero, ← List.range_eq_range'], rfl, rfl⟩ (fun _ => rfl) ?_ ?_ ?_
  · (intro x xs us H' q51_; (refine e14 q51_ fun j hj hl q154_ q155_ => ?_; try clear q51_; subst q154_; subst q155_))
    refine ⟨trivial, ?_⟩
    have hjn : j < ns.length := by
      (refine Or.elim (Nat.lt_or_ge j ns.length) (fun z => ?_) (fun z => ?_))
      · exact z
      · rw [show ns.length - j = 0 by lia] at hl; exact cn hl
    have er : List.range' j (ns.length - j) = j :: List.range' (j + 1) (ns.length - (j + 1)) := by
      rw [show ns.length - j = (ns.length - (j + 1)) + 1 by lia, List.range'_succ]
    rw [er, List.map_cons] at hl
    injection hl with h1 h2
    subst h1 h2
    have hcl := cellsUp_len ns [0, 1, 12, 19, 0] j
    have hcl5 : (cellsUp ns [0, 1, 12, 19, 0] j).length = 5 := hcl
    have hj5 : j % 5 < 5 := Nat.mod_lt _ (by decide)
    have hx1 : ns[j]? = some (ns.getD j 0) := by rw [List.getD_eq_getElem?_getD, List.getElem?_eq_getElem hjn]; rfl
    have hx2 : ((cellsUp ns [0, 1, 12, 19, 0] j).map V.int)[j % 5]? = some (.int ((cellsUp ns [0, 1, 12, 19, 0] j).getD (j % 5) 0)) := by
      rw [List.getElem?_map, List.getD_eq_getElem?_getD, List.getElem?_eq_getElem (by lia)]; rfl
    have hk5 : (j : Int).fmod 5 = ((j % 5 : Nat) : Int) := by rw [Int.fmod_eq_emod_of_nonneg _ (by lia)]; lia
    have hg0 : ([MO.list ((cellsUp ns [0, 1, 12, 19, 0] j).map V.int)] : List MO)[0]? = some (.list ((cellsUp ns [0, 1, 12, 19, 0] j).map V.int)) := rfl
    have hl5 : ((cellsUp ns [0, 1, 12, 19, 0] j).map V.int).length ≤ 1000 := by rw [List.length_map]; lia
    have hj6 : j < 1000000 := by lia
    refine .go (fl := .next) (vars2 := [(Str.ofString "script", .con (.ref a)), (Str.ofString "cells", .obj 0)]) (by walk_at "tas") (TS_weak (by walk_at "ts") ?_) rfl ⟨j + 1, hjn, rfl, ?_, rfl⟩
    · exact fun y v hl => lookup_pre hl
    · show [MO.list _] = [MO.list _]
      rw [show cellsUp ns [0, 1, 12, 19, 0] (j + 1) = (cellsUp ns [0, 1, 12, 19, 0] j).set (j % 5) ((cellsUp ns [0, 1, 12, 19, 0] j).getD (j % 5) 0 + ns.getD j 0) from rfl, List.map_set]
  · (intro us H' q52_; (refine e14 q52_ fun j hj hl q156_ q157_ => ?_; try clear q52_; subst q156_; subst q157_))
    have : j = ns.length := by
      (refine Or.elim (Nat.lt_or_ge j ns.length) (fun z => ?_) (fun z => ?_))
      · rw [show ns.length - j = (ns.length - (j + 1)) + 1 by lia, List.range'_succ] at hl; exact nc hl
      · lia
    subst this
    exact ⟨trivial, .inl ⟨_, _, TS_nil, rfl, rfl⟩⟩
  · (intro us H' q53_; (refine e02 q53_ fun q158_ q159_ => ?_; try clear q53_; subst q158_; subst q159_))
    exact k
end
section
local macro_rules | `(tactic| walk_at "po") => `(tactic| walk_at "!PO_itemL j=j hi hx hj hs ; hi:u hx:as hj:as hs:z2|PO_itemO' j=j hH hi hx hj hs ; hH:r hi:u hx:y12 hj:y13 hs:z2")
theorem name_pair {w : World} {l r : List Nat} (h : (pairL l r).length ≤ 1000) : Meets w 3 1 (.ref 332) [.str (pairS (strL l) (strL r))] H (.str (strL l)) H := by
  rw [pairS_strL]
  exact name_of (by rw [strL_len]; lia) (head_257 ⟨_, rfl⟩) (pair_unq l r)
theorem law_2 {c : Amb} {sv : V} {a0 a1 a2 a3 a4 : Int} {cs : Nat → Nat} {tl : Nat → List Nat} {vars'' : Vars} {f : Fl} {H'' : List MO} (hn1 : 1 ≤ c.n) (hR : Room (lawC c) 20) (h0 : a0.fmod 30 = (cs 0 : Int)) (h1 : a1.fmod 30 = (cs 1 : Int)) (h2 : a2.fmod 30 = (cs 2 : Int)) (h3 : a3.fmod 30 = (cs 3 : Int)) (hcs : ∀ k, k < 4 → cs k < 30)
    (htl : ∀ k : Nat, k < 4 → termS (cs k : Int) (a4.fmod 6 + (k : Int)) = strL (tl k)) (htp : ∀ k, k < 4 → (tl k).all plainCh = true ∧ (tl k).length ≤ 100)
    (k : TS (lawC c) (lawE c) [(Str.ofString "cells", .obj 0), (Str.ofString "codes", codesV cs), (Str.ofString "first", .str (pairS (strL (tl 0)) (strL (tl 1)))), (Str.ofString "second", .str (pairS (strL (tl 2)) (strL (tl 3))))] [.list [.int a0, .int a1, .int a2, .int a3, .int a4]] ((lawL c.w).body.drop 6) f vars'' H'') :
    TS (lawC c) (lawE c) [(Str.ofString "script", sv), (Str.ofString "cells", .obj 0)] [.list [.int a0, .int a1, .int a2, .int a3, .int a4]] ((lawL c.w).body.drop 2) f vars'' H'' := by
  unfold lawC lawE at *
  dsimp only [lawL, List.drop] at k hR ⊢
  refine TS_next (TS1_assign (v := codesV cs) (H1 := [.list [.int a0, .int a1, .int a2, .int a3, .int a4]]) (TE_comp (H1 := [.list [.int a0, .int a1, .int a2, .int a3, .int a4]]) (xs := rngV 4) (cl := ?cl) (own := []) [(Str.ofString "cells", .obj 0)] (ItR_range (n := 4) (m := 4) (r := fun _ => True) ?r1 ?r2 rfl (by decide) ?r3) ?b1 ?cc1 ?d1 ?e1 ?f1 ?g1 ?hsz ?h1) ?hx ?hsw) ?_
  case r1 => walk_at "te"
  case r2 => walk_at "te"
  case r3 => with_unfolding_all rfl
  case hsw => with_unfolding_all rfl
  case hx => walk_at "store"
  case b1 => with_unfolding_all rfl
  case cc1 => rfl
  case d1 => decide
  case e1 => intro _; rfl
  case f1 => walk_at "cap"
  case g1 => exact fun C _ => OwnOk.nil
  case hsz => rw [sizeLine_eq]; decide
  case h1 =>
    intro C mm
    refine CmpR_map trivial fun j hj => ?_
    have hj4 : j < 4 := List.mem_range.mp hj
    match j, hj4 with
    | 0, _ => rw [← h0]; exact ⟨_, by walk_at "tas", by walk_at "ext", by walk_at "te"⟩
    | 1, _ => rw [← h1]; exact ⟨_, by walk_at "tas", by walk_at "ext", by walk_at "te"⟩
    | 2, _ => rw [← h2]; exact ⟨_, by walk_at "tas", by walk_at "ext", by walk_at "te"⟩
    | 3, _ => rw [← h3]; exact ⟨_, by walk_at "tas", by walk_at "ext", by walk_at "te"⟩
  refine TS_next (TS1_acomp (H1 := [.list [.int a0, .int a1, .int a2, .int a3, .int a4]]) (H2 := [.list [.int a0, .int a1, .int a2, .int a3, .int a4]]) (xs := rngV 4) (ys := (List.range 4).map fun (k : Nat) => V.str (strL (tl k))) (cl := ?cl2) (own := []) [(Str.ofString "cells", .obj 0), (Str.ofString "codes", codesV cs)] ?hx2 ?hsw2 (ItR_range (n := 4) (m := 4) (r := fun _ => True) ?r12 ?r22 rfl (by decide) ?r32) ?b12 ?cc12 ?d12 ?e12 ?f12 ?g12 ?hsz2 ?h12) ?_
  case r12 => walk_at "te"
  case r22 => walk_at "te"
  case r32 => with_unfolding_all rfl
  case hsw2 => with_unfolding_all rfl
  case hx2 => walk_at "store"
  case b12 => with_unfolding_all rfl
  case cc12 => rfl
  case d12 => decide
  case e12 => intro _; rfl
  case f12 => walk_at "cap"
  case g12 => exact fun C _ => OwnOk.nil
  case hsz2 => rw [sizeLine_eq]; decide
  case h12 =>
    intro C mm
    refine CmpR_map trivial fun j hj => ?_
    have hj4 : j < 4 := List.mem_range.mp hj
    have hc := hcs j hj4
    have gj : ((List.range 4).map fun (k : Nat) => V.int (cs k : Int))[j]? = some (.int (cs j : Int)) := by rw [List.getElem?_map, List.getElem?_range hj4]; rfl
    have hj6 : j < 1000000 := by lia
    rw [← htl j hj4]
    have hm := term_m (w := c.w) (H := [.list [.int a0, .int a1, .int a2, .int a3, .int a4]]) (a := (cs j : Int)) (b := a4.fmod 6 + (j : Int)) (by lia)
    have hR2 := Room.fm (m := some mm) hR
    have hR4 := hR2.le (lv' := 4) (by lia)
    exact ⟨_, by walk_at "tas", by walk_at "ext", by walk_at "te"⟩
  have ht0 := htp 0 (by decide)
  have ht1 := htp 1 (by decide)
  have ht2 := htp 2 (by decide)
  have ht3 := htp 3 (by decide)
  rw [show ((List.range 4).map fun (k : Nat) => V.str (strL (tl k))) = [.str (strL (tl 0)), .str (strL (tl 1)), .str (strL (tl 2)), .str (strL (tl 3))] from rfl]
  have hpr : ∀ i j, i < 4 → j < 4 → Meets c.w 2 1 (.ref 304) [.str (strL (tl i)), .str (strL (tl j))] [.list [.int a0, .int a1, .int a2, .int a3, .int a4]] (.str (pairS (strL (tl i)) (strL (tl j)))) [.list [.int a0, .int a1, .int a2, .int a3, .int a4]] := fun i j hi hj => by
    have e1 := esc_len (strL (tl i))
    have e2 := esc_len (strL (tl j))
    have l1 := (htp i hi).2
    have l2 := (htp j hj).2
    rw [strL_len (tl i)] at e1
    rw [strL_len (tl j)] at e2
    exact pair_meets (by rw [strL_len]; lia) (by rw [strL_len]; lia) (by lia) (by lia)
  have hp01 := hpr 0 1 (by decide) (by decide)
  have hp23 := hpr 2 3 (by decide) (by decide)
  have hnm : ∀ i j, i < 4 → j < 4 → Meets c.w 3 1 (.ref 332) [.str (pairS (strL (tl i)) (strL (tl j)))] [.list [.int a0, .int a1, .int a2, .int a3, .int a4]] (.str (strL (tl i))) [.list [.int a0, .int a1, .int a2, .int a3, .int a4]] := fun i j hi hj => by
    have := pairL_len (tl i) (tl j)
    have l1 := (htp i hi).2
    have l2 := (htp j hj).2
    exact name_pair (by lia)
  have hn01 := hnm 0 1 (by decide) (by decide)
  have hn23 := hnm 2 3 (by decide) (by decide)
  have so : ∀ i, i < 4 → PyData.strOk (strL (tl i)) = true := fun i hi => plain_ok (by show (tl i).toArray.all plainCh = true; rw [List.all_toArray]; exact (htp i hi).1)
  have hkq : ∀ H : List MO, kqdOk 8 ((V.lst [.str (strL (tl 0)), .str (strL (tl 2))]).D H) = true := fun H => by
    show kqdOk 8 (.list [.str (strL (tl 0)), .str (strL (tl 2))]) = true
    simp [kqdOk, so 0 (by decide), so 2 (by decide)]
  have hkq' := hkq [.list [.int a0, .int a1, .int a2, .int a3, .int a4]]
  have heq : (V.lst [.str (strL (tl 0)), .str (strL (tl 2))]).D [.list [.int a0, .int a1, .int a2, .int a3, .int a4]] = (V.lst [.str (strL (tl 0)), .str (strL (tl 2))]).D [.list [.int a0, .int a1, .int a2, .int a3, .int a4]] ↔ false = false := neV_false rfl
  have hR2 := hR.le (lv' := 2) (by lia)
  have hR3 := hR.le (lv' := 3) (by lia)
  refine TS_next (vars' := [(Str.ofString "script", sv), (Str.ofString "cells", .obj 0), (Str.ofString "codes", codesV cs), (Str.ofString "terms", .lst [.str (strL (tl 0)), .str (strL (tl 1)), .str (strL (tl 2)), .str (strL (tl 3))]), (Str.ofString "second", .str (pairS (strL (tl 2)) (strL (tl 3)))), (Str.ofString "first", .str (pairS (strL (tl 0)) (strL (tl 1))))]) (H1 := [.list [.int a0, .int a1, .int a2, .int a3, .int a4]]) ?sw ?_
  case sw =>
    refine' TS1_weak ?w5 ?w6
    case w5 => walk_at "ts1"
    case w6 => with_unfolding_all exact fun y v h => h
  walk_at "nx"
  exact TS_strong k (lookup_sub (by with_unfolding_all exact List.forall_mem_cons.mpr ⟨rfl, List.forall_mem_cons.mpr ⟨rfl, List.forall_mem_cons.mpr ⟨rfl, List.forall_mem_cons.mpr ⟨rfl, fun _ h => absurd h List.not_mem_nil⟩⟩⟩⟩))
end
section
noncomputable abbrev lawH (cells : List V) (ps : List (Str × Str)) (ks : KT) (fl : List Str) : List MO := [.list cells, .idict (some (.obj 3)), .inst 1, .list (ps.map pairV), .dict (ks.map kidV), .list (fl.map V.str)]
noncomputable abbrev lawV (en : Str) (lab : List Int) : Vars := [(Str.ofString "cells", .obj 0), (Str.ofString "bound", .obj 2), (Str.ofString "end", .str en), (Str.ofString "label", .lstC lab), (Str.ofString "kids", .obj 4), (Str.ofString "faults", .obj 5)]
theorem law_3 {c : Amb} {cells : List V} {cs : Nat → Nat} {x0 y0 en : Str} {ps' td' : List (Str × Str)} {n m : Nat} {lab' : List Int} {vars'' : Vars} {f : Fl} {H'' : List MO} (hn1 : 1 ≤ c.n) (hR : Room (lawC c) 20) (hcs : ∀ k, k < 4 → cs k < 30)
    (hS : Sol [] n [(x0, y0)] en ps' td') (hC : Cls (kidsUp cs 4) (labL fun n => (n : Int)) m [(nodeOf cs 0, nodeOf cs 2), (nodeOf cs 1, nodeOf cs 3)] lab')
    (k : TS (lawC c) (lawE c) (lawV en lab') (lawH cells ps' (kidsUp cs 4) []) ((lawL c.w).body.drop 10) f vars'' H'') :
    TS (lawC c) (lawE c) [(Str.ofString "cells", .obj 0), (Str.ofString "codes", codesV cs), (Str.ofString "first", .str x0), (Str.ofString "second", .str y0)] [.list cells] ((lawL c.w).body.drop 6) f vars'' H'' := by
  unfold lawC lawE at *
  dsimp only [lawL, List.drop] at k hR ⊢
  have hR4 := hR.le (lv' := 4) (by lia)
  have hR3 := hR.le (lv' := 3) (by lia)
  have hR10 := hR.le (lv' := 10) (by lia)
  refine TS_next (TS1_assign (v := .obj 2) (H1 := [.list cells, .idict (some (.obj 3)), .inst 1, .list []]) (TE_call0 ?a1 ?a2 (make_0 (H := [.list cells]) hn1 hR4)) (by walk_at "store") (by with_unfolding_all rfl)) ?_
  case a1 => walk_at "te"
  case a2 => walk_at "kept"
  have hh : HdrAt [.list cells, .idict (some (.obj 3)), .inst 1, .list []] 2 1 3 (([] : List (Str × Str)).map pairV) := hdr_0 (H := [.list cells])
  have hs : Meets c.w 10 1 (.ref 365) [.obj 2, .str x0, .str y0] [.list cells, .idict (some (.obj 3)), .inst 1, .list []] (.str en) [.list cells, .idict (some (.obj 3)), .inst 1, .list (ps'.map pairV)] := solve_m (w := c.w) hh hS
  walk_at "nx"
  have hc : Meets c.w 3 1 (.ref 377) [codesV cs] [.list cells, .idict (some (.obj 3)), .inst 1, .list (ps'.map pairV)] (.tup [.lstC lab', .obj 4]) [.list cells, .idict (some (.obj 3)), .inst 1, .list (ps'.map pairV), .dict ((kidsUp cs 4).map kidV)] := classes_m (w := c.w) hcs hC
  walk_at "nx"
  refine TS_next (TS1_assign (v := .obj 5) (H1 := [.list cells, .idict (some (.obj 3)), .inst 1, .list (ps'.map pairV), .dict ((kidsUp cs 4).map kidV), .list []]) ?nt (by walk_at "store") (by with_unfolding_all rfl)) ?_
  case nt =>
    refine TE_listM (H1 := [.list cells, .idict (some (.obj 3)), .inst 1, .list (ps'.map pairV), .dict ((kidsUp cs 4).map kidV)]) ?_ ?_
    · walk_at "tes"
    · rw [sizeLine_eq]; simp
  exact TS_strong k (lookup_sub (by with_unfolding_all exact List.forall_mem_cons.mpr ⟨rfl, List.forall_mem_cons.mpr ⟨rfl, List.forall_mem_cons.mpr ⟨rfl, List.forall_mem_cons.mpr ⟨rfl, List.forall_mem_cons.mpr ⟨rfl, List.forall_mem_cons.mpr ⟨rfl, fun _ h => absurd h List.not_mem_nil⟩⟩⟩⟩⟩⟩))
end
section
local macro_rules | `(tactic| walk_at "mth") => `(tactic| walk_at "!Mth_list a %F.slot_list_append %F.type_list_append ; a:as")
local macro_rules | `(tactic| walk_at "pc") => `(tactic| walk_at "!PC_append q:as l:as")
local macro_rules | `(tactic| walk_at "po") => `(tactic| walk_at "!PO_inT hx:as|PO_neV a:as b:r u:room h:as|PO_itemL j=j hi hx hj hs ; hi:u hx:as hj:as hs:z2")
noncomputable abbrev lawW (t₀ : Nat) (en : Str) (lab : List Int) : Vars := [(Str.ofString "cells", .obj 0), (Str.ofString "bound", .obj 2), (Str.ofString "end", .str en), (Str.ofString "label", .lst (cohL t₀ lab)), (Str.ofString "kids", .obj 4), (Str.ofString "faults", .obj 5)]
noncomputable def clL (lab : List Int) (ks : KT) : KT := ks.filter fun p => [lab.getD 3 0, lab.getD 4 0].any (· == lab.getD p.1 0)
noncomputable def clB (lab : List Int) (ks : KT) : Bool := (lab.getD 3 0 == lab.getD 4 0) || !(clL lab ks).isEmpty
theorem getD_of {lab : List Int} {j : Nat} (h : j < lab.length) : lab[j]? = some (lab.getD j 0) := by
  rw [List.getD_eq_getElem?_getD, List.getElem?_eq_getElem h]; rfl
theorem kq_ks (l : KT) : kqdOk 8 ((V.lst (l.map fun p => V.int (p.1 : Int))).D H) = true := by
  show kqdOk 8 (.list (Vs.D0 (l.map fun p => V.int (p.1 : Int)))) = true
  rw [Vs.D0_map, List.map_map]
  simp only [kqdOk, List.all_map, List.all_eq_true]
  intro x hx; rfl
theorem law_4 {c : Amb} {cells : List V} {ps : List (Str × Str)} {ks : KT} {en : Str} {lab : List Int} {vars'' : Vars} {f : Fl} {H'' : List MO} (hn1 : 1 ≤ c.n) (hR : Room (lawC c) 20) (hk : KsOk ks) (h9 : lab.length = 9)
    (k : ∀ t₀, 1 ≤ t₀ → TS (lawC c) (lawE c) (lawW t₀ en lab) (lawH cells ps ks (if clB lab ks then [Str.ofString "clash"] else [])) ((lawL c.w).body.drop 11) f vars'' H'') :
    TS (lawC c) (lawE c) (lawV en lab) (lawH cells ps ks []) ((lawL c.w).body.drop 10) f vars'' H'' := by
  refine Tri.openC (x := Str.ofString "label") (xs := lab) rfl fun t₀ h0 => ?_
  replace k := k t₀ h0
  unfold lawC lawE at *
  dsimp only [lawL, List.drop] at k hR ⊢
  show TS _ _ (lawW t₀ en lab) _ _ _ _ _
  have g3 := coh_get (t₀ := t₀) (getD_of (lab := lab) (j := 3) (by lia))
  have g4 := coh_get (t₀ := t₀) (getD_of (lab := lab) (j := 4) (by lia))
  have b3 : 3 < 1000000 := by decide
  have b4 : 4 < 1000000 := by decide
  have gf : (lawH cells ps ks [])[5]? = some (.list []) := rfl
  have lf : ([] : List V).length ≤ 1000 := by decide
  have eS : lawH cells ps ks [Str.ofString "clash"] = (lawH cells ps ks []).set 5 (.list ([] ++ [.str (Str.ofString "clash")])) := rfl
  by_cases h34 : lab.getD 3 0 = lab.getD 4 0
  · have e1 : (lab.getD 3 0 == lab.getD 4 0) = true := by simpa using h34
    have e2 : clB lab ks = true := by unfold clB; rw [e1]; rfl
    rw [e2, if_pos rfl, eS] at k
    refine TS_next ?_ k
    refine' TS1_if' (q := true) ?ta (Or.inl ⟨rfl, ?tbody⟩)
    case ta =>
      refine' TB_or' (p := (lab.getD 3 0 == lab.getD 4 0)) ?a (Or.inl ⟨e1, rfl, rfl⟩)
      case a => walk_at "tb"
    case tbody => walk_at "ts"
  · have e1 : (lab.getD 3 0 == lab.getD 4 0) = false := by simpa using h34
    have e2 : clB lab ks = !(clL lab ks).isEmpty := by unfold clB; rw [e1]; rfl
    have hgk : (lawH cells ps ks [])[4]? = some (.dict (ks.map kidV)) := rfl
    have test : ∀ q2 : Bool, q2 = !(clL lab ks).isEmpty → ((V.lst ((clL lab ks).map fun p => V.int (p.1 : Int))).D (lawH cells ps ks []) = (V.lst []).D (lawH cells ps ks []) ↔ q2 = false) := fun q2 hq => by
      subst hq
      cases clL lab ks with
      | nil => exact neV_false rfl
      | cons p r => exact neV_true (by simp [V.D, V.D0, Vs.D0])
    have hkq := kq_ks (H := lawH cells ps ks []) (clL lab ks)
    have hne := test _ rfl
    rw [e2] at k
    refine TS_next ?_ k
    refine' TS1_if' (q := !(clL lab ks).isEmpty) (H1 := lawH cells ps ks []) ?ua ?ub
    case ub =>
      cases clL lab ks with
      | nil => exact Or.inr ⟨rfl, TS_nil⟩
      | cons p r =>
        refine Or.inl ⟨rfl, ?_⟩
        rw [show (if (!(p :: r).isEmpty) = true then [Str.ofString "clash"] else []) = [Str.ofString "clash"] from rfl, eS]
        walk_at "ts"
    case ua =>
      refine' TB_or' (p := (lab.getD 3 0 == lab.getD 4 0)) (H1 := lawH cells ps ks []) ?va (Or.inr ⟨e1, ?vb⟩)
      case va => walk_at "tb"
      case vb =>
        refine' TB_or' (p := !(clL lab ks).isEmpty) (H1 := lawH cells ps ks []) ?wa ?wb
        case wb =>
          cases clL lab ks with
          | nil => exact Or.inr ⟨rfl, TB_or0⟩
          | cons p r => exact Or.inl ⟨rfl, rfl, rfl⟩
        case wa =>
          refine' TB_cmp (hm := ?m1) (TE_comp (H1 := lawH cells ps ks []) (H2 := lawH cells ps ks []) (xs := (ks.map kidV).map fun p => V.int p.1) (ys := (clL lab ks).map fun p => V.int (p.1 : Int)) (cl := ?cl) (own := []) [(Str.ofString "label", .lst (cohL t₀ lab))] (ItR_of (KH := fun H => H[4]? = some (.dict (ks.map kidV))) ?it walk_dict hgk) ?b1 ?cc1 ?d1 ?e1 ?f1 ?g1 ?hsz ?h1) ?m3 ?m4
          case m1 => with_unfolding_all rfl
          case m3 => walk_at "te"
          case m4 => walk_at "po"
          case it => walk_at "te"
          case b1 => with_unfolding_all rfl
          case cc1 => rfl
          case d1 => decide
          case e1 => intro _; rfl
          case f1 => walk_at "cap"
          case g1 => exact fun C _ => OwnOk.nil
          case hsz => rw [sizeLine_eq, List.length_map, List.length_map]; have := hk.few; lia
          case h1 =>
            intro C mm
            rw [List.map_map, show ((fun p : Int × V => V.int p.1) ∘ kidV) = fun p : Nat × (Nat × Nat) => V.int (p.1 : Int) from rfl]
            unfold clL
            refine CmpR_filter hgk (fun p hp => ?_) _ (fun _ _ h => h)
            have hkp := hk.key p hp
            have gp := coh_get (t₀ := t₀) (getD_of (lab := lab) (j := p.1) (by lia))
            have hp6 : p.1 < 1000000 := by lia
            have hin : ∀ {fz : Lg} {ρ : List Addr} {vs : List Value}, VRs fz ρ vs [.intP (lab.getD 3 0) (· = t₀ + (lab.getD 3 0).toNat), .intP (lab.getD 4 0) (· = t₀ + (lab.getD 4 0).toNat)] → IntsAre vs [lab.getD 3 0, lab.getD 4 0] := fun h => vr_coh (ns := [lab.getD 3 0, lab.getD 4 0]) h
            refine ⟨_, by walk_at "tas", by walk_at "ext", ?_, fun _ => by walk_at "te"⟩
            refine CTest.one ?_
            walk_at "tb"
end
section
local macro_rules | `(tactic| walk_at "mth") => `(tactic| walk_at "!Mth_list a %F.slot_list_append %F.type_list_append ; a:as")
local macro_rules | `(tactic| walk_at "pc") => `(tactic| walk_at "!PC_append q:as l:as")
local macro_rules | `(tactic| walk_at "po") => `(tactic| walk_at "!PO_inL hx:as|PO_ninL hx:as|PO_neV a:as b:r u:room h:as|PO_eqV a:as b:r u:room h:as|PO_itemL j=j hi hx hj hs ; hi:u hx:as hj:as hs:z2|PO_itemD hi:as hx:as hs:z2")
noncomputable def dnF (lab : List Int) (ks : KT) (dn : List Int) (x : Int) : KT := ks.filter fun p => (lab.getD p.1 0 == x) && !(dn.any (· == lab.getD p.2.1 0) && dn.any (· == lab.getD p.2.2 0))
noncomputable def dnN (lab : List Int) (ks : KT) : Nat → List Int
  | 0 => []
  | s + 1 => lab.filter fun x => (dnF lab ks (dnN lab ks s) x).isEmpty
theorem lookup_mem {α : Type} {l : List (Str × α)} {y : Str} {a : α} (q : l.lookup y = some a) : (y, a) ∈ l := by
  induction l with
  | nil => simp at q
  | cons p l ih =>
    obtain ⟨b, d⟩ := p
    rw [List.lookup_cons] at q
    split at q
    · rename_i e
      (replace q := Option.some.inj q; subst q)
      rw [beq_iff_eq.mp e]; exact .head _
    · exact .tail _ (ih q)
noncomputable abbrev lawX (t₀ : Nat) (en : Str) (lab dn : List Int) : Vars := [(Str.ofString "cells", .obj 0), (Str.ofString "bound", .obj 2), (Str.ofString "end", .str en), (Str.ofString "label", .lst (cohL t₀ lab)), (Str.ofString "kids", .obj 4), (Str.ofString "faults", .obj 5), (Str.ofString "done", .lst (cohL t₀ dn))]
theorem law_5a {c : Amb} {cells : List V} {ps : List (Str × Str)} {ks : KT} {fl : List Str} {en : Str} {lab : List Int} {t₀ : Nat} {vars'' : Vars} {f : Fl} {H'' : List MO} (hn1 : 1 ≤ c.n) (hR : Room (lawC c) 20) (hk : KsOk ks) (h9 : lab.length = 9)
    (k : TS (lawC c) (lawE c) (lawX t₀ en lab (dnN lab ks 5)) (lawH cells ps ks fl) ((lawL c.w).body.drop 13) f vars'' H'') :
    TS (lawC c) (lawE c) (lawW t₀ en lab) (lawH cells ps ks fl) ((lawL c.w).body.drop 11) f vars'' H'' := by
  unfold lawC lawE at *
  dsimp only [lawL, List.drop] at k hR ⊢
  walk_at "nx"
  have hgk : (lawH cells ps ks fl)[4]? = some (.dict (ks.map kidV)) := rfl
  refine TS_forI (H1 := lawH cells ps ks fl) (KH := fun _ => True) (fun xs us H' => ∃ j, j ≤ 5 ∧ xs = (List.range' j (5 - j)).map (fun (k : Nat) => V.int (k : Int)) ∧ H' = lawH cells ps ks fl ∧ us = lawX t₀ en lab (dnN lab ks j))
    (fun us H' => H' = lawH cells ps ks fl ∧ us = lawX t₀ en lab (dnN lab ks 5))
    (ItR_range (n := 5) (m := 5) (by walk_at "te") (by walk_at "te") rfl (by decide) (by with_unfolding_all rfl)) ⟨0, by decide, rfl, rfl, rfl⟩ (fun _ => rfl) ?_ ?_ ?_
  · (intro x xs us H' q54_; (refine e14 q54_ fun j hj hl q160_ q161_ => ?_; try clear q54_; subst q160_; subst q161_))
    refine ⟨trivial, ?_⟩
    have hj4 : j < 5 := by
      (refine Or.elim (Nat.lt_or_ge j 5) (fun z => ?_) (fun z => ?_))
      · exact z
      · rw [show 5 - j = 0 by lia] at hl; exact cn hl
    have er : List.range' j (5 - j) = j :: List.range' (j + 1) (5 - (j + 1)) := by
      rw [show 5 - j = (5 - (j + 1)) + 1 by lia, List.range'_succ]
    rw [er, List.map_cons] at hl
    injection hl with h1 h2
    subst h1 h2
    refine .go (fl := .next) (vars2 := lawX t₀ en lab (dnN lab ks (j + 1))) (by walk_at "tas") (TS_weak (TS_next (TS1_assign (v := .lst (cohL t₀ (dnN lab ks (j + 1)))) (H1 := lawH cells ps ks fl) ?comp ?hx ?hsw) TS_nil) ?wk) rfl ⟨j + 1, by lia, rfl, rfl, rfl⟩
    case wk => with_unfolding_all exact fun y v hl => lookup_pre hl
    case hsw => with_unfolding_all rfl
    case hx => walk_at "store"
    case comp =>
      rw [show dnN lab ks (j + 1) = lab.filter fun x => (dnF lab ks (dnN lab ks j) x).isEmpty from rfl]
      generalize dnN lab ks j = dn
      refine TE_comp (H1 := lawH cells ps ks fl) (H2 := lawH cells ps ks fl) (xs := cohL t₀ lab) (cl := ?cl) (own := [Str.ofString "x"]) [(Str.ofString "label", .lst (cohL t₀ lab)), (Str.ofString "kids", .obj 4), (Str.ofString "done", .lst (cohL t₀ dn))] (ItR_of (KH := fun _ => True) ?it walk_lst trivial) ?b1 ?cc1 ?d1 ?e1 ?f1 ?g1 ?hsz ?h1
      case it => walk_at "te"
      case b1 => with_unfolding_all rfl
      case cc1 => rfl
      case d1 => decide
      case e1 => intro _; rfl
      case f1 => walk_at "cap"
      case g1 =>
        intro C hC
        refine own_ok (acc := _) rfl (fun x hx => ?_) fun y a q => ?_
        · rw [List.mem_singleton.mp (show x ∈ [Str.ofString "x"] from hx)]; with_unfolding_all rfl
        · have hm := lookup_mem q
          (refine Or.elim (List.mem_cons.mp hm) (fun h => ?_) (fun hm => ?_))
          · cases h; first | exact Nat.lt_succ_of_lt (hC (Str.ofString "label") _ _ rfl (by with_unfolding_all rfl)) | exact Nat.lt_succ_of_lt (hC (Str.ofString "kids") _ _ rfl (by with_unfolding_all rfl)) | exact Nat.lt_succ_of_lt (hC (Str.ofString "done") _ _ rfl (by with_unfolding_all rfl))
          · (refine Or.elim (List.mem_cons.mp hm) (fun h => ?_) (fun hm => ?_))
            · cases h; first | exact Nat.lt_succ_of_lt (hC (Str.ofString "label") _ _ rfl (by with_unfolding_all rfl)) | exact Nat.lt_succ_of_lt (hC (Str.ofString "kids") _ _ rfl (by with_unfolding_all rfl)) | exact Nat.lt_succ_of_lt (hC (Str.ofString "done") _ _ rfl (by with_unfolding_all rfl))
            · (refine Or.elim (List.mem_cons.mp hm) (fun h => ?_) (fun hm => ?_))
              · cases h; first | exact Nat.lt_succ_of_lt (hC (Str.ofString "label") _ _ rfl (by with_unfolding_all rfl)) | exact Nat.lt_succ_of_lt (hC (Str.ofString "kids") _ _ rfl (by with_unfolding_all rfl)) | exact Nat.lt_succ_of_lt (hC (Str.ofString "done") _ _ rfl (by with_unfolding_all rfl))
              · exact absurd hm List.not_mem_nil
      case hsz => rw [sizeLine_eq, List.length_map]; lia
      case h1 =>
        intro C mm
        refine CmpR_filter trivial (fun x hx => ?_) _ (fun _ _ h => h)
        have hR2 := Room.fm (m := some mm) hR
        have hkq := kq_ks (H := lawH cells ps ks fl) (dnF lab ks dn x)
        have heq : ((V.lst ((dnF lab ks dn x).map fun p => V.int (p.1 : Int))).D (lawH cells ps ks fl) = (V.lst []).D (lawH cells ps ks fl) ↔ (dnF lab ks dn x).isEmpty = true) := by
          cases dnF lab ks dn x with
          | nil => exact eqV_true rfl
          | cons p r => exact eqV_false (by simp [V.D, V.D0, Vs.D0])
        refine' ⟨_, ?tas, ?ext, CTest.one (TB_cmp (hm := ?m1) (TE_comp (H1 := lawH cells ps ks fl) (H2 := lawH cells ps ks fl) (xs := (ks.map kidV).map fun p => V.int p.1) (ys := (dnF lab ks dn x).map fun p => V.int (p.1 : Int)) (cl := ?cl2) (own := []) [(Str.ofString "x", .intP x (· = t₀ + x.toNat)), (Str.ofString "label", .lst (cohL t₀ lab)), (Str.ofString "kids", .obj 4), (Str.ofString "done", .lst (cohL t₀ dn))] (ItR_of (KH := fun H => H[4]? = some (.dict (ks.map kidV))) ?it2 walk_dict hgk) ?b12 ?cc12 ?d12 ?e12 ?f12 ?g12 ?hsz2 ?h12) ?m3 ?m4), ?elt⟩
        case tas => walk_at "tas"
        case ext => intro y v hl; rw [lookup_setv]; split
                    · rename_i q; subst q; have h2 : (none : Option V) = some v := hl; exact ns h2
                    · exact hl
        case m1 => with_unfolding_all rfl
        case m3 => walk_at "te"
        case m4 => walk_at "po"
        case elt => exact fun _ => by walk_at "te"
        case it2 => walk_at "te"
        case b12 => with_unfolding_all rfl
        case cc12 => rfl
        case d12 => decide
        case e12 => intro _; rfl
        case f12 => walk_at "cap"
        case g12 => exact fun C _ => OwnOk.nil
        case hsz2 => rw [sizeLine_eq, List.length_map, List.length_map]; have := hk.few; lia
        case h12 =>
          intro C mm
          rw [List.map_map, show ((fun p : Int × V => V.int p.1) ∘ kidV) = fun p : Nat × (Nat × Nat) => V.int (p.1 : Int) from rfl]
          unfold dnF
          refine CmpR_filter hgk (fun p hp => ?_) _ (fun _ _ h => h)
          have hkp := hk.key p hp
          (refine Exists.elim (List.getElem?_of_mem hp) fun jj hjj => ?_)
          have hes : (ks.map kidV)[jj]? = some ((p.1 : Int), .tup [.int (p.2.1 : Int), .int (p.2.2 : Int)]) := by rw [List.getElem?_map, hjj]; rfl
          have gp := coh_get (t₀ := t₀) (getD_of (lab := lab) (j := p.1) (by lia))
          have gl := coh_get (t₀ := t₀) (getD_of (lab := lab) (j := p.2.1) (by lia))
          have gr := coh_get (t₀ := t₀) (getD_of (lab := lab) (j := p.2.2) (by lia))
          have hp6 : p.1 < 1000000 := by lia
          have hl6 : p.2.1 < 1000000 := by lia
          have hr6 : p.2.2 < 1000000 := by lia
          have hin : ∀ {fz : Lg} {ρ : List Addr} {vs : List Value}, VRs fz ρ vs (cohL t₀ dn) → IntsAre vs dn := fun h => vr_coh h
          refine' ⟨_, ?tas2, ?ext2, ?ct2, ?elt2⟩
          case tas2 => walk_at "tas"
          case ext2 => walk_at "ext"
          case elt2 => exact fun _ => by walk_at "te"
          case ct2 =>
            cases hb1 : (lab.getD p.1 0 == x) with
            | false =>
              refine CTest.one (b := false) ?_
              walk_at "tb"
            | true =>
              cases hb2 : dn.any (· == lab.getD p.2.1 0) with
              | false =>
                refine CTest.one (b := true) ?_
                walk_at "tb"
              | true =>
                cases hb3 : dn.any (· == lab.getD p.2.2 0) with
                | false =>
                  refine CTest.one (b := true) ?_
                  walk_at "tb"
                | true =>
                  refine CTest.one (b := false) ?_
                  walk_at "tb"
  · (intro us H' q55_; (refine e14 q55_ fun j hj hl q162_ q163_ => ?_; try clear q55_; subst q162_; subst q163_))
    have : j = 5 := by
      (refine Or.elim (Nat.lt_or_ge j 5) (fun z => ?_) (fun z => ?_))
      · rw [show 5 - j = (5 - (j + 1)) + 1 by lia, List.range'_succ] at hl; exact nc hl
      · lia
    subst this
    exact ⟨trivial, .inl ⟨_, _, TS_nil, rfl, rfl⟩⟩
  · (intro us H' q56_; (refine e02 q56_ fun q164_ q165_ => ?_; try clear q56_; subst q164_; subst q165_))
    exact k
noncomputable def rgL (lab dn : List Int) : List Int := lab.filter fun x => !(dn.any (· == x))
theorem law_5b {c : Amb} {cells : List V} {ps : List (Str × Str)} {ks : KT} {fl : List Str} {en : Str} {lab dn : List Int} {t₀ : Nat} {vars'' : Vars} {f : Fl} {H'' : List MO} (hn1 : 1 ≤ c.n) (hR : Room (lawC c) 20) (h9 : lab.length = 9) (hfl : fl.length ≤ 10)
    (k : TS (lawC c) (lawE c) (lawX t₀ en lab dn) (lawH cells ps ks (if !(rgL lab dn).isEmpty then fl ++ [Str.ofString "ring"] else fl)) ((lawL c.w).body.drop 14) f vars'' H'') :
    TS (lawC c) (lawE c) (lawX t₀ en lab dn) (lawH cells ps ks fl) ((lawL c.w).body.drop 13) f vars'' H'' := by
  unfold lawC lawE at *
  dsimp only [lawL, List.drop] at k hR ⊢
  refine TS_next ?_ k
  have gf : (lawH cells ps ks fl)[5]? = some (.list (fl.map V.str)) := rfl
  have lf : (fl.map V.str).length ≤ 1000 := by rw [List.length_map]; lia
  have eS : lawH cells ps ks (fl ++ [Str.ofString "ring"]) = (lawH cells ps ks fl).set 5 (.list (fl.map V.str ++ [.str (Str.ofString "ring")])) := by
    unfold lawH; rw [List.map_append]; rfl
  have hkq : kqdOk 8 ((V.lst (cohL t₀ (rgL lab dn))).D (lawH cells ps ks fl)) = true := by
    show kqdOk 8 (.list (Vs.D0 (cohL t₀ (rgL lab dn)))) = true
    rw [Vs.D0_map, cohL, List.map_map]
    simp only [kqdOk, List.all_map, List.all_eq_true]
    intro x hx; rfl
  have heq : ((V.lst (cohL t₀ (rgL lab dn))).D (lawH cells ps ks fl) = (V.lst []).D (lawH cells ps ks fl) ↔ (!(rgL lab dn).isEmpty) = false) := by
    cases rgL lab dn with
    | nil => exact neV_false rfl
    | cons p r => exact neV_true (by simp [V.D, V.D0, Vs.D0])
  refine' TS1_if' (q := !(rgL lab dn).isEmpty) (H1 := lawH cells ps ks fl) ?ua ?ub
  case ub =>
    cases rgL lab dn with
    | nil => exact Or.inr ⟨rfl, TS_nil⟩
    | cons p r =>
      refine Or.inl ⟨rfl, ?_⟩
      rw [show (if (!(p :: r).isEmpty) = true then fl ++ [Str.ofString "ring"] else fl) = fl ++ [Str.ofString "ring"] from rfl, eS]
      walk_at "ts"
  case ua =>
    refine' TB_cmp (hm := ?m1) (TE_comp (H1 := lawH cells ps ks fl) (H2 := lawH cells ps ks fl) (xs := cohL t₀ lab) (ys := cohL t₀ (rgL lab dn)) (cl := ?cl) (own := []) [(Str.ofString "done", .lst (cohL t₀ dn))] (ItR_of (KH := fun _ => True) ?it walk_lst trivial) ?b1 ?cc1 ?d1 ?e1 ?f1 ?g1 ?hsz ?h1) ?m3 ?m4
    case m1 => with_unfolding_all rfl
    case m3 => walk_at "te"
    case m4 => walk_at "po"
    case it => walk_at "te"
    case b1 => with_unfolding_all rfl
    case cc1 => rfl
    case d1 => decide
    case e1 => intro _; rfl
    case f1 => walk_at "cap"
    case g1 => exact fun C _ => OwnOk.nil
    case hsz => rw [sizeLine_eq, List.length_map]; lia
    case h1 =>
      intro C mm
      have hin : ∀ {fz : Lg} {ρ : List Addr} {vs : List Value}, VRs fz ρ vs (cohL t₀ dn) → IntsAre vs dn := fun h => vr_coh h
      refine CmpR_filter trivial (fun x hx => ?_) _ (fun _ _ h => h)
      refine ⟨_, by walk_at "tas", by walk_at "ext", ?_, fun _ => by walk_at "te"⟩
      refine CTest.one ?_
      walk_at "tb"
end
section
noncomputable def mkN : Nat → Nat
  | 0 => 124
  | 1 => 33
  | _ => 47
noncomputable def okN : Nat → Nat
  | 0 => 47
  | 1 => 124
  | _ => 33
theorem item_mark {r : Int} (h : 0 ≤ r ∧ r < 3) : Txt.item (Str.ofString "|!/") r = strL [mkN r.toNat] ∧ Txt.item (Str.ofString "|!/") (r - 1) = strL [okN r.toNat] := by
  have : r = 0 ∨ r = 1 ∨ r = 2 := by lia
  (refine Or.elim this (fun o302_ => ?_) (fun o303_ => ?_); rotate_left 1; try clear this; (refine Or.elim o303_ (fun o84_ => ?_) (fun o85_ => ?_); rotate_left 1; try clear o303_; subst o85_; rotate_right 1; try clear o303_; subst o84_); rotate_right 1; try clear this; subst o302_) <;> decide +kernel
noncomputable def portRes (far : Int) : List V := [.str (lit "error_reply"), .str (lit "error_reply"), .str (lit "error_reply"), .str (lit "error_proto"), .str (lit "error_proto"), .str (lit "error_proto"), .str (lit "error_proto"), .str (lit "error_proto"), .tup [.str (lit "h"), .int far]]
theorem ninth {i : Nat} (hi : i < 3) {p : List Nat} (hp : ∀ c ∈ p, 48 ≤ c ∧ c ≤ 57) {far : Int} (hfar : PySem.intText? (strL p) = some far) (hlen : p.length ≤ 10) {w : World} {H : List MO} :
    Meets w 2 1 (.ref 146) [.str (strL ([50, 50, 57, 32, 40] ++ mkN i :: 50 :: mkN i :: okN i :: okN i :: 49 :: mkN i :: (p ++ [mkN i, 41]))), .tup [.str (lit "h"), .int 2]] H (.tup [.str (lit "h"), .int far]) H := by
  have hm : mkN i = 124 ∨ mkN i = 33 ∨ mkN i = 47 := by match i, hi with | 0, _ => exact .inl rfl | 1, _ => exact .inr (.inl rfl) | 2, _ => exact .inr (.inr rfl)
  have ho : (okN i = 124 ∨ okN i = 33 ∨ okN i = 47) ∧ okN i ≠ mkN i := by match i, hi with | 0, _ => decide | 1, _ => decide | 2, _ => decide
  generalize mkN i = m at *
  generalize okN i = o at *
  have hpm : m ∉ p := fun q => by have := hp m q; lia
  have hp41 : 41 ∉ p := fun q => by have := hp 41 q; lia
  generalize hl : ([50, 50, 57, 32, 40] ++ m :: 50 :: m :: o :: o :: 49 :: m :: (p ++ [m, 41]) : List Nat) = l
  have hL : l.length = 14 + p.length := by rw [← hl]; simp; lia
  have e40 : lit "(" = (⟨#[40]⟩ : Str) := by decide
  have e41 : lit ")" = (⟨#[41]⟩ : Str) := by decide
  have h1 : Txt.find (strL l) (lit "(") = 4 := by
    rw [e40, find_at (pre := [50, 50, 57, 32]) (post := m :: 50 :: m :: o :: o :: 49 :: m :: (p ++ [m, 41])) (by rw [← hl]; rfl) (by decide)]; rfl
  have h2 : Txt.find3 (strL l) (lit ")") (4 + 1) = ((13 + p.length : Nat) : Int) := by
    have := find3_at (l := l) (c := 41) (i := 4 + 1) (p1 := [50, 50, 57, 32, 40]) (p2 := m :: 50 :: m :: o :: o :: 49 :: m :: (p ++ [m])) (post := []) (by rw [← hl]; simp) rfl (fun q => by
      simp only [List.mem_cons, List.mem_append, List.not_mem_nil, or_false] at q
      (refine Or.elim q (fun q => ?_) (fun o304_ => ?_); rotate_left 1; try clear q; (refine Or.elim o304_ (fun q => ?_) (fun o86_ => ?_); rotate_left 1; try clear o304_; (refine Or.elim o86_ (fun q => ?_) (fun o114_ => ?_); rotate_left 1; try clear o86_; rcases o114_ with q | q | q | q | q | q; rotate_right 1; try clear o86_); rotate_right 1; try clear o304_); rotate_right 1)
      all_goals first | exact hp41 q | lia)
    rw [e41, this]
    simp; lia
  have hit : ∀ {j : Int} {n : Nat} {a : Nat}, j = (n : Int) → l[n]? = some a → Txt.item (strL l) j = ⟨#[a]⟩ := fun hj ha => by
    subst hj
    exact item_at (by rw [len_list]; exact ha)
  have hsl : Txt.slice (strL l) (some (4 + 1)) (some ((13 + p.length : Nat) : Int)) = strL (m :: 50 :: m :: o :: o :: 49 :: m :: (p ++ [m])) := by
    have := slice_mid (l := l) (a := 5) (b := 13 + p.length) (by lia) (by lia)
    rw [show ((5 : Nat) : Int) = 4 + 1 from rfl] at this
    rw [this, ← hl]
    congr 1
    show List.take (13 + p.length - 5) (m :: 50 :: m :: o :: o :: 49 :: m :: (p ++ [m, 41])) = _
    rw [show 13 + p.length - 5 = p.length + 1 + 7 by lia]
    simp [List.take_append]
    exact List.take_of_length_le (Nat.le_succ _)
  have hit1 := hit (j := 4 + 1) (n := 5) (a := m) rfl (by rw [← hl]; rfl)
  have hit2 := hit (j := ((13 + p.length : Nat) : Int) - 1) (n := 12 + p.length) (a := m) (by lia) (by
    have hl2 : l = ([50, 50, 57, 32, 40] ++ m :: 50 :: m :: o :: o :: 49 :: m :: p) ++ (m :: [41]) := by rw [← hl]; simp
    have hpl : ([50, 50, 57, 32, 40] ++ m :: 50 :: m :: o :: o :: 49 :: m :: p : List Nat).length = 12 + p.length := by simp; lia
    rw [hl2, List.getElem?_append_right (by lia), hpl, Nat.sub_self]; rfl)
  refine p229_ok (v := .none) (L := 4) (R := ((13 + p.length : Nat) : Int)) (n := far) (q0 := strL []) (q1 := strL [50]) (q2 := strL [o, o, 49]) (q3 := strL p) (q4 := strL []) (by rw [strL_len]; lia) ?_ h1 (by decide) h2 (by simp; lia) ⟨by decide, by rw [strL_len]; lia, by rw [strL_len]; lia⟩ ⟨by lia, by rw [strL_len]; lia, by rw [strL_len]; lia⟩ ?_ ?_ hfar (by rw [strL_len]; lia)
  · have := slice_to (l := l) (n := 3) (by lia)
    rw [show ((3 : Nat) : Int) = 3 from rfl] at this
    rw [this, ← hl]
    show (strL [50, 50, 57] != lit "229") = false
    decide +kernel
  · rw [hit1, hit2]; simp
  · rw [hsl, hit1, split_is (ps := [[], [50], [o, o, 49], p, []]) (by simp) ?_ ?_]
    · rfl
    · intro q hq
      simp only [List.mem_cons, List.not_mem_nil, or_false] at hq
      (refine Or.elim hq (fun o305_ => ?_) (fun o306_ => ?_); rotate_left 1; try clear hq; (refine Or.elim o306_ (fun o87_ => ?_) (fun o88_ => ?_); rotate_left 1; try clear o306_; (refine Or.elim o88_ (fun o115_ => ?_) (fun o116_ => ?_); rotate_left 1; try clear o88_; rcases o116_ with rfl | rfl; rotate_right 1; try clear o88_; subst o115_); rotate_right 1; try clear o306_; subst o87_); rotate_right 1; try clear hq; subst o305_)
      · simp
      · simp; lia
      · simp; lia
      · exact hpm
      · simp
    · simp [joinL]
theorem join_text {m o : Nat} {p : List Nat} : Txt.join (strL [m]) [Str.ofString "229 (", Str.ofString "2", Txt.mul (strL [o]) 2 ++ Str.ofString "1", strL p, Str.ofString ")"] = strL ([50, 50, 57, 32, 40] ++ m :: 50 :: m :: o :: o :: 49 :: m :: (p ++ [m, 41])) := by
  have e1 : (Str.ofString "229 (") = strL [50, 50, 57, 32, 40] := by decide
  have e2 : (Str.ofString "2") = strL [50] := by decide
  have e4 : (Str.ofString "1") = strL [49] := by decide
  have e6 : Txt.mul (strL [o]) 2 = strL [o, o] := rfl
  have e5 : (Str.ofString ")") = strL [41] := by decide
  unfold Txt.join
  rw [StrLaws.glued_eq_join, e1, e2, e4, e6, e5, strL_app]
  have h2 := join_joinL m [strL [50, 50, 57, 32, 40], strL [50], strL ([o, o] ++ [49]), strL p, strL [41]]
  have h3 := (strL_toList (Str.join ⟨#[m]⟩ [strL [50, 50, 57, 32, 40], strL [50], strL ([o, o] ++ [49]), strL p, strL [41]])).symm.trans (congrArg strL h2)
  refine Eq.trans h3 ?_
  simp only [List.map_cons, List.map_nil, len_list, joinL, List.cons_append, List.nil_append]
theorem rep_far {i : Nat} (hi : i < 3) {far : Int} (h0 : 0 ≤ far) (h1 : far < 65536) {w : World} {H : List MO} :
    Meets w 2 1 (.ref 146) [.str (Txt.join (strL [mkN i]) [Str.ofString "229 (", Str.ofString "2", Txt.mul (strL [okN i]) 2 ++ Str.ofString "1", Str.ofString (toString far), Str.ofString ")"]), .tup [.str (lit "h"), .int 2]] H (.tup [.str (lit "h"), .int far]) H := by
  have hlen := len_num (n := far) h0 (by lia)
  have hnum := KIN.num_reads (n := far) h0 (by lia)
  have hd : ∀ c ∈ (Str.ofString (toString far)).cps.toList, 48 ≤ c ∧ c ≤ 57 := by
    (refine Exists.elim (Int.eq_ofNat_of_zero_le h0) fun m q166_ => ?_; subst q166_)
    intro c hc
    rw [KIN.signs_num] at hc
    (refine e12 (List.mem_map.mp hc) fun ch hch e => ?_)
    have r := digit_range (Nat.isDigit_of_mem_toDigits (by decide) (by decide) hch)
    rw [← e]; exact r
  have e := strL_toList (Str.ofString (toString far))
  generalize (Str.ofString (toString far)).cps.toList = p at e hd
  rw [← e] at hnum hlen ⊢
  rw [join_text]
  rw [strL_len] at hlen
  exact ninth hi hd hnum hlen
theorem port_all {i : Nat} (hi : i < 3) {far : Int} (h0 : 0 ≤ far) (h1 : far < 65536) {w : World} {H : List MO} : ∀ p ∈ (repliesS (strL [mkN i]) (strL [okN i]) far).zip (portRes far), Meets w 3 1 (.ref 325) [.str p.1] H p.2 H := by
  intro p hp
  simp only [repliesS, portRes, List.zip_cons_cons, List.zip_nil_left, List.mem_cons, List.not_mem_nil, or_false] at hp
  (refine Or.elim hp (fun o307_ => ?_) (fun o308_ => ?_); rotate_left 1; try clear hp; (refine Or.elim o308_ (fun o89_ => ?_) (fun o90_ => ?_); rotate_left 1; try clear o308_; (refine Or.elim o90_ (fun o117_ => ?_) (fun o118_ => ?_); rotate_left 1; try clear o90_; rcases o118_ with rfl | rfl | rfl | rfl | rfl | rfl; rotate_right 1; try clear o90_; subst o117_); rotate_right 1; try clear o308_; subst o89_); rotate_right 1; try clear hp; subst o307_)
  · match i, hi with
    | 0, _ => exact port_reply fun w H => p229_X0 (v := peerV) (by decide +kernel) (by decide +kernel)
    | 1, _ => exact port_reply fun w H => p229_X0 (v := peerV) (by decide +kernel) (by decide +kernel)
    | 2, _ => exact port_reply fun w H => p229_X0 (v := peerV) (by decide +kernel) (by decide +kernel)
  · match i, hi with
    | 0, _ => exact port_reply fun w H => p229_X0 (v := peerV) (by decide +kernel) (by decide +kernel)
    | 1, _ => exact port_reply fun w H => p229_X0 (v := peerV) (by decide +kernel) (by decide +kernel)
    | 2, _ => exact port_reply fun w H => p229_X0 (v := peerV) (by decide +kernel) (by decide +kernel)
  · match i, hi with
    | 0, _ => exact port_reply fun w H => p229_X0 (v := peerV) (by decide +kernel) (by decide +kernel)
    | 1, _ => exact port_reply fun w H => p229_X0 (v := peerV) (by decide +kernel) (by decide +kernel)
    | 2, _ => exact port_reply fun w H => p229_X0 (v := peerV) (by decide +kernel) (by decide +kernel)
  · match i, hi with
    | 0, _ => exact port_proto fun w H => p229_X3 (v := peerV) (L := 4) (R := 11) (by decide +kernel) (by decide +kernel) (by decide +kernel) (by decide +kernel) (by decide +kernel) (by decide +kernel) (by decide +kernel) (by decide +kernel) (by decide +kernel)
    | 1, _ => exact port_proto fun w H => p229_X3 (v := peerV) (L := 4) (R := 11) (by decide +kernel) (by decide +kernel) (by decide +kernel) (by decide +kernel) (by decide +kernel) (by decide +kernel) (by decide +kernel) (by decide +kernel) (by decide +kernel)
    | 2, _ => exact port_proto fun w H => p229_X3 (v := peerV) (L := 4) (R := 11) (by decide +kernel) (by decide +kernel) (by decide +kernel) (by decide +kernel) (by decide +kernel) (by decide +kernel) (by decide +kernel) (by decide +kernel) (by decide +kernel)
  · match i, hi with
    | 0, _ => exact port_proto fun w H => p229_X4 (v := peerV) (L := 4) (R := 11) (l := [strL [], strL [], strL [], strL [], strL [49], strL []]) (by decide +kernel) (by decide +kernel) (by decide +kernel) (by decide +kernel) (by decide +kernel) (by decide +kernel) (by decide +kernel) (by decide +kernel) (by decide +kernel) (by decide +kernel) (by decide +kernel) (by decide +kernel)
    | 1, _ => exact port_proto fun w H => p229_X4 (v := peerV) (L := 4) (R := 11) (l := [strL [], strL [], strL [], strL [], strL [49], strL []]) (by decide +kernel) (by decide +kernel) (by decide +kernel) (by decide +kernel) (by decide +kernel) (by decide +kernel) (by decide +kernel) (by decide +kernel) (by decide +kernel) (by decide +kernel) (by decide +kernel) (by decide +kernel)
    | 2, _ => exact port_proto fun w H => p229_X4 (v := peerV) (L := 4) (R := 11) (l := [strL [], strL [], strL [], strL [], strL [49], strL []]) (by decide +kernel) (by decide +kernel) (by decide +kernel) (by decide +kernel) (by decide +kernel) (by decide +kernel) (by decide +kernel) (by decide +kernel) (by decide +kernel) (by decide +kernel) (by decide +kernel) (by decide +kernel)
  · match i, hi with
    | 0, _ => exact port_proto fun w H => p229_X4 (v := peerV) (L := 4) (R := 9) (l := [strL [], strL [], strL [49], strL []]) (by decide +kernel) (by decide +kernel) (by decide +kernel) (by decide +kernel) (by decide +kernel) (by decide +kernel) (by decide +kernel) (by decide +kernel) (by decide +kernel) (by decide +kernel) (by decide +kernel) (by decide +kernel)
    | 1, _ => exact port_proto fun w H => p229_X4 (v := peerV) (L := 4) (R := 9) (l := [strL [], strL [], strL [49], strL []]) (by decide +kernel) (by decide +kernel) (by decide +kernel) (by decide +kernel) (by decide +kernel) (by decide +kernel) (by decide +kernel) (by decide +kernel) (by decide +kernel) (by decide +kernel) (by decide +kernel) (by decide +kernel)
    | 2, _ => exact port_proto fun w H => p229_X4 (v := peerV) (L := 4) (R := 9) (l := [strL [], strL [], strL [49], strL []]) (by decide +kernel) (by decide +kernel) (by decide +kernel) (by decide +kernel) (by decide +kernel) (by decide +kernel) (by decide +kernel) (by decide +kernel) (by decide +kernel) (by decide +kernel) (by decide +kernel) (by decide +kernel)
  · exact port_proto fun w H => p229_X1 (v := peerV) (by decide +kernel) (by decide +kernel) (by decide +kernel)
  · match i, hi with
    | 0, _ => exact port_proto fun w H => p229_X2 (v := peerV) (by decide +kernel) (by decide +kernel) (by decide +kernel) (by decide +kernel)
    | 1, _ => exact port_proto fun w H => p229_X2 (v := peerV) (by decide +kernel) (by decide +kernel) (by decide +kernel) (by decide +kernel)
    | 2, _ => exact port_proto fun w H => p229_X2 (v := peerV) (by decide +kernel) (by decide +kernel) (by decide +kernel) (by decide +kernel)
  · exact port_ok (fun w H => rep_far hi h0 h1) fun _ => rfl
end
section
local macro_rules | `(tactic| walk_at "po") => `(tactic| walk_at "!PO_itemO' j=j hH hi hx hj hs ; hH:r hi:u hx:r hj:d hs:z2|PO_mulL n=n hk hne hl hn ; hk:u hne:d hl:d hn:d|PO_addLL hl:y14")
theorem law_6a {c : Amb} {a0 a1 a2 a3 a4 : Int} {ps : List (Str × Str)} {ks : KT} {fl : List Str} {en : Str} {lab dn : List Int} {t₀ : Nat} {vars'' : Vars} {f : Fl} {H'' : List MO} (hn1 : 1 ≤ c.n) (hR : Room (lawC c) 20)
    (k : ∀ (i : Nat) (far : Int), i < 3 → 0 ≤ far → far < 65536 → TS (lawC c) (lawE c) (lawX t₀ en lab dn ++ [(Str.ofString "far", .int far), (Str.ofString "replies", .lst ((repliesS (strL [mkN i]) (strL [okN i]) far).map V.str))]) (lawH [.int a0, .int a1, .int a2, .int a3, .int a4] ps ks fl) ((lawL c.w).body.drop 16) f vars'' H'') :
    TS (lawC c) (lawE c) (lawX t₀ en lab dn) (lawH [.int a0, .int a1, .int a2, .int a3, .int a4] ps ks fl) ((lawL c.w).body.drop 14) f vars'' H'' := by
  have hr3 : 0 ≤ a4.fmod 3 ∧ a4.fmod 3 < 3 := by rw [Int.fmod_eq_emod_of_nonneg _ (by lia)]; lia
  have hf0 : 0 ≤ (a4.fdiv 6 + 1024).fmod 65536 ∧ (a4.fdiv 6 + 1024).fmod 65536 < 65536 := by rw [Int.fmod_eq_emod_of_nonneg _ (by lia)]; lia
  replace k := k (a4.fmod 3).toNat ((a4.fdiv 6 + 1024).fmod 65536) (by lia) hf0.1 hf0.2
  (refine e02 (item_mark hr3) fun im1 im2 => ?_)
  rw [← im1, ← im2] at k
  unfold lawC lawE at *
  dsimp only [lawL, List.drop] at k hR ⊢
  walk_at "nx"
  have hps : (Str.ofString (toString ((a4.fdiv 6 + 1024).fmod 65536))).length ≤ 10 := len_num hf0.1 (by lia)
  have hlg : ((a4.fdiv 6 + 1024).fmod 65536).natAbs.log2 < 1920 := log_of (by lia)
  have hj : JoinOk (Txt.item (Str.ofString "|!/") (a4.fmod 3)) [Str.ofString "229 (", Str.ofString "2", Txt.mul (Txt.item (Str.ofString "|!/") (a4.fmod 3 - 1)) 2 ++ Str.ofString "1", Str.ofString (toString ((a4.fdiv 6 + 1024).fmod 65536)), Str.ofString ")"] = true := by
    have q1 : (Str.ofString "229 (").length = 5 := by decide
    have q2 : (Str.ofString "2").length = 1 := by decide
    have q3 : (Str.ofString "1").length = 1 := by decide
    have q4 : (Str.ofString ")").length = 1 := by decide
    have q5 : (Txt.mul (Txt.item (Str.ofString "|!/") (a4.fmod 3 - 1)) 2).length = 2 := rfl
    have q6 : (Txt.item (Str.ofString "|!/") (a4.fmod 3)).length = 1 := len_item _ _
    unfold JoinOk PySem.Builtin.Str.tooLong
    simp only [List.size_toArray, List.foldl_toArray', List.foldl_toArray, List.foldl_cons, List.foldl_nil, Str.length_append, q1, q2, q3, q4, q5, q6]
    generalize (Str.ofString (toString ((a4.fdiv 6 + 1024).fmod 65536))).length = q at hps ⊢
    rw [sizeLine_eq]
    simp
    lia
  have hrm := replies_m (w := c.w) (H := lawH [.int a0, .int a1, .int a2, .int a3, .int a4] ps ks fl) (m := Txt.item (Str.ofString "|!/") (a4.fmod 3)) (o := Txt.item (Str.ofString "|!/") (a4.fmod 3 - 1)) (port := (a4.fdiv 6 + 1024).fmod 65536) rfl rfl hps hlg hj
  have hR2 := hR.le (lv' := 2) (by lia)
  have hxl : (Str.ofString "|!/").length = 3 := by decide
  walk_at "nx"
  exact k

theorem error_proto_ok : PyData.strOk (lit "error_proto") = true := by decide +kernel
theorem error_reply_ok : PyData.strOk (lit "error_reply") = true := by decide +kernel
theorem h_ok : PyData.strOk (lit "h") = true := by decide +kernel
theorem law_6b {c : Amb} {cells : List V} {ps : List (Str × Str)} {ks : KT} {fl : List Str} {en : Str} {lab dn : List Int} {t₀ i : Nat} {far : Int} {vars'' : Vars} {f : Fl} {H'' : List MO} (hn1 : 1 ≤ c.n) (hR : Room (lawC c) 20) (hi : i < 3) (h0 : 0 ≤ far) (h1 : far < 65536)
    (k : TS (lawC c) (lawE c) (lawX t₀ en lab dn) (lawH cells ps ks fl) ((lawL c.w).body.drop 17) f vars'' H'') :
    TS (lawC c) (lawE c) (lawX t₀ en lab dn ++ [(Str.ofString "far", .int far), (Str.ofString "replies", .lst ((repliesS (strL [mkN i]) (strL [okN i]) far).map V.str))]) (lawH cells ps ks fl) ((lawL c.w).body.drop 16) f vars'' H'' := by
  unfold lawC lawE at *
  dsimp only [lawL, List.drop] at k hR ⊢
  have hkq : kqdOk 8 ((V.lst (portRes far)).D (lawH cells ps ks fl)) = true := by
    show kqdOk 8 (.list [.str _, .str _, .str _, .str _, .str _, .str _, .str _, .str _, .tuple [.str _, .int _]]) = true
    simp [kqdOk, error_proto_ok, error_reply_ok, h_ok]
  have heq : ((V.lst (portRes far)).D (lawH cells ps ks fl) = (V.lst (portRes far)).D (lawH cells ps ks fl) ↔ false = false) := neV_false rfl
  have hR3 := hR.le (lv' := 3) (by lia)
  have hpa := port_all (w := c.w) (H := lawH cells ps ks fl) hi h0 h1
  have ez : (repliesS (strL [mkN i]) (strL [okN i]) far).map V.str = ((repliesS (strL [mkN i]) (strL [okN i]) far).zip (portRes far)).map fun p => V.str p.1 := rfl
  have ez2 : portRes far = ((repliesS (strL [mkN i]) (strL [okN i]) far).zip (portRes far)).map fun p => p.2 := rfl
  have hlen : ((repliesS (strL [mkN i]) (strL [okN i]) far).map V.str).length = 9 := rfl
  generalize hl : (repliesS (strL [mkN i]) (strL [okN i]) far).zip (portRes far) = l at *
  rw [ez] at hlen ⊢
  refine TS_next (vars' := lawX t₀ en lab dn ++ [(Str.ofString "far", .int far), (Str.ofString "replies", .lst (l.map fun p => V.str p.1))]) (H1 := lawH cells ps ks fl) ?iff (TS_strong k fun y v hl => lookup_pre hl)
  refine' TS1_if' (q := false) (H1 := lawH cells ps ks fl) ?ua (Or.inr ⟨rfl, TS_nil⟩)
  refine' TB_cmp (hm := ?m1) (TE_comp (H1 := lawH cells ps ks fl) (H2 := lawH cells ps ks fl) (xs := l.map fun p => V.str p.1) (ys := portRes far) (cl := ?cl) (own := []) [] (ItR_of (KH := fun _ => True) ?it walk_lst trivial) ?b1 ?cc1 ?d1 ?e1 ?f1 ?g1 ?hsz ?h1) ?m3 (PO_neV (y := .lst (portRes far)) hkq hkq ?m4 heq)
  case m1 => with_unfolding_all rfl
  case m4 => walk_at "room"
  case m3 =>
    show TE _ _ _ _ _ (.lst ((List.replicate 3 [V.str (Str.ofString "error_reply")]).flatten ++ (List.replicate 5 [V.str (Str.ofString "error_proto")]).flatten ++ [.tup [.str (Str.ofString "h"), .int far]])) _
    walk_at "te"
  case it => walk_at "te"
  case b1 => with_unfolding_all rfl
  case cc1 => rfl
  case d1 => decide
  case e1 => intro _; rfl
  case f1 => walk_at "cap"
  case g1 => exact fun C _ => OwnOk.nil
  case hsz => rw [sizeLine_eq, hlen]; decide
  case h1 =>
    intro C mm
    have hR2 := Room.fm (m := some mm) hR3
    rw [ez2]
    refine CmpR_map trivial fun p hp => ?_
    have hm := hpa p hp
    exact ⟨_, by walk_at "tas", by walk_at "ext", by walk_at "te"⟩
theorem law_6c {c : Amb} {cells : List V} {ps : List (Str × Str)} {ks : KT} {fl : List Str} {en : Str} {lab dn : List Int} {t₀ : Nat} {vars'' : Vars} {f : Fl} {H'' : List MO} (hn1 : 1 ≤ c.n) (hR : Room (lawC c) 20)
    (k : TS (lawC c) (lawE c) (lawX t₀ en lab dn) (lawH cells ps ks fl) ((lawL c.w).body.drop 19) f vars'' H'') :
    TS (lawC c) (lawE c) (lawX t₀ en lab dn) (lawH cells ps ks fl) ((lawL c.w).body.drop 17) f vars'' H'' := by
  unfold lawC lawE at *
  dsimp only [lawL, List.drop] at k hR ⊢
  have hR3 := hR.le (lv' := 3) (by lia)
  have hkq : kqdOk 8 ((V.lst [.str (lit "error_reply"), .str (lit "error_reply"), .str (lit "error_reply")]).D (lawH cells ps ks fl)) = true := by
    show kqdOk 8 (.list [.str _, .str _, .str _]) = true
    simp [kqdOk, error_reply_ok]
  have heq : ((V.lst [.str (lit "error_reply"), .str (lit "error_reply"), .str (lit "error_reply")]).D (lawH cells ps ks fl) = (V.lst [.str (lit "error_reply"), .str (lit "error_reply"), .str (lit "error_reply")]).D (lawH cells ps ks fl) ↔ false = false) := neV_false rfl
  refine TS_next (vars' := lawX t₀ en lab dn) (H1 := lawH cells ps ks fl) ?iff ?_
  case iff =>
    refine' TS1_if' (q := false) (H1 := lawH cells ps ks fl) ?ua (Or.inr ⟨rfl, TS_nil⟩)
    refine' TB_cmp (hm := ?m1) (TE_comp (H1 := lawH cells ps ks fl) (H2 := lawH cells ps ks fl) (xs := [Str.ofString "157", Str.ofString "267", Str.ofString "258 257"].map V.str) (ys := [Str.ofString "157", Str.ofString "267", Str.ofString "258 257"].map fun _ => V.str (lit "error_reply")) (cl := ?cl) (own := []) [] (ItR_of (KH := fun _ => True) ?it walk_lst trivial) ?b1 ?cc1 ?d1 ?e1 ?f1 ?g1 ?hsz ?h1) ?m3 (PO_neV (y := V.lst [.str (lit "error_reply"), .str (lit "error_reply"), .str (lit "error_reply")]) hkq hkq ?m4 heq)
    case m1 => with_unfolding_all rfl
    case m4 => walk_at "room"
    case m3 =>
      show TE _ _ _ _ _ (.lst ((List.replicate 3 [V.str (Str.ofString "error_reply")]).flatten)) _
      walk_at "te"
    case it =>
      show TE _ _ _ _ _ (.lst [V.str (Str.ofString "157"), V.str (Str.ofString "267"), V.str (Str.ofString "258 257")]) _
      walk_at "te"
    case b1 => with_unfolding_all rfl
    case cc1 => rfl
    case d1 => decide
    case e1 => intro _; rfl
    case f1 => walk_at "cap"
    case g1 => exact fun C _ => OwnOk.nil
    case hsz => rw [sizeLine_eq]; decide
    case h1 =>
      intro C mm
      have hR2 := Room.fm (m := some mm) hR3
      refine CmpR_map trivial fun x hx => ?_
      have h7 : has257 (x ++ Str.ofString " \"x\"") = false ∧ (x ++ Str.ofString " \"x\"").length ≤ 100000 ∧ x.length ≤ 10 := by
        revert x; decide +kernel
      have hm := name_X (w := c.w) (H := lawH cells ps ks fl) h7.2.1 h7.1
      have hxl := h7.2.2
      have hql : (Str.ofString " \"x\"").length = 4 := by decide
      exact ⟨_, by walk_at "tas", by walk_at "ext", by walk_at "te"⟩
  have hm1 := name_0 (w := c.w) (H := lawH cells ps ks fl) (x := Str.ofString "257-\"x\"") (by decide) (by decide +kernel) (by decide +kernel)
  have hm2 := name_0 (w := c.w) (H := lawH cells ps ks fl) (x := Str.ofString "257 xx\"") (by decide) (by decide +kernel) (by decide +kernel)
  have e0 : (lit "" != Str.ofString "") = false := by decide
  refine TS_next (vars' := lawX t₀ en lab dn) (H1 := lawH cells ps ks fl) ?iff2 k
  case iff2 => walk_at "ts1"
end
section
local macro_rules | `(tactic| walk_at "po") => `(tactic| walk_at "!PO_neNil0 a:as u:room|PO_neNil1 a:as b:as u:room|PO_inOS a:as")
theorem law_7y {c : Amb} {cells : List V} {ps : List (Str × Str)} {ks : KT} {fl : List Str} {x en : Str} {lab dn : List Int} {t₀ : Nat} (hn1 : 1 ≤ c.n) (hR : Room (lawC c) 20) (hok : ∀ y ∈ fl ++ [x], PyData.strOk y = true) (hen : en ∈ fl ++ [x]) :
    TS (lawC c) (lawE c) (lawX t₀ en lab dn) (lawH cells ps ks (fl ++ [x])) ((lawL c.w).body.drop 19) (.ret (.bool true)) [] (lawH cells ps ks (fl ++ [x])) := by
  unfold lawC lawE at *
  dsimp only [lawL, List.drop] at hR ⊢
  have g0 : (lawH cells ps ks (fl ++ [x]))[5]? = some (.list (fl.map V.str ++ [.str x])) := by
    show some (MO.list ((fl ++ [x]).map V.str)) = _
    rw [List.map_append]; rfl
  have g1 : (lawH cells ps ks (fl ++ [x]))[5]? = some (.list ((fl ++ [x]).map V.str)) := rfl
  have hq : ∀ y ∈ fl.map V.str ++ [V.str x], kqdOk 7 y.D0 = true := by
    rw [show fl.map V.str ++ [V.str x] = (fl ++ [x]).map V.str by simp]
    intro y hy
    (refine e12 (List.mem_map.mp hy) fun z hz q167_ => ?_; subst q167_)
    show kqdOk 7 (.str z) = true
    simp [kqdOk, hok z hz]
  have hany : (fl ++ [x]).any (· == en) = true := by
    rw [List.any_eq_true]; exact ⟨en, hen, by simp⟩
  refine TS_ret ?_
  refine' TS1_if' (q := true) (H1 := lawH cells ps ks (fl ++ [x])) ?ua (Or.inl ⟨rfl, ?ub⟩)
  case ua => walk_at "tb"
  case ub => rw [← hany]; walk_at "ts"
theorem law_7n {c : Amb} {cells : List V} {ps : List (Str × Str)} {ks : KT} {en : Str} {lab dn : List Int} {t₀ : Nat} {vars'' : Vars} {f : Fl} {H'' : List MO} (hn1 : 1 ≤ c.n) (hR : Room (lawC c) 20)
    (k : TS (lawC c) (lawE c) (lawX t₀ en lab dn) (lawH cells ps ks []) ((lawL c.w).body.drop 20) f vars'' H'') :
    TS (lawC c) (lawE c) (lawX t₀ en lab dn) (lawH cells ps ks []) ((lawL c.w).body.drop 19) f vars'' H'' := by
  unfold lawC lawE at *
  dsimp only [lawL, List.drop] at k hR ⊢
  have g0 : (lawH cells ps ks [])[5]? = some (.list []) := rfl
  refine TS_next (vars' := lawX t₀ en lab dn) (H1 := lawH cells ps ks []) ?iff k
  case iff =>
    refine' TS1_if' (q := false) (H1 := lawH cells ps ks []) ?ua (Or.inr ⟨rfl, TS_nil⟩)
    case ua => walk_at "tb"
end
section
local macro_rules | `(tactic| walk_at "pc") => `(tactic| walk_at "!PC_meets a:as n:as r:as")
theorem TAs.weakS {tgt : Expr} {x : Str} {r : Tok → Prop} {vars vars1 : Vars} (h : TAs c e H tgt (.str x) vars vars1) : TAs c e H tgt (.strP x r) vars vars1 := fun v s fz ys ρ g Q E R hv k => by
  refine h v s fz ys ρ g Q E R ?_ k
  induction hv using VR.strE with
  | k t _ => exact .str x t trivial
noncomputable def namesL (ps : List (Str × Str)) : List Nat := [88, 121, 90].filter fun k => (hget ps (strL [k])).isSome
noncomputable abbrev lawY (t₀ : Nat) (en : Str) (lab : List Int) (ds : Nat → Str) (nl : List Nat) : Vars := [(Str.ofString "bound", .obj 2), (Str.ofString "end", .str en), (Str.ofString "label", .lst (cohL t₀ lab)), (Str.ofString "due", .lst ((List.range 3).map fun (k : Nat) => V.str (ds k))), (Str.ofString "names", .lst (nl.map fun k => V.str (strL [k])))]
theorem name_plain {k : Nat} (h : k = 88 ∨ k = 121 ∨ k = 90 ∨ k = 120 ∨ k = 89 ∨ k = 122) : OkT (strL [k]) := by
  (refine Or.elim h (fun o309_ => ?_) (fun o310_ => ?_); rotate_left 1; try clear h; (refine Or.elim o310_ (fun o91_ => ?_) (fun o92_ => ?_); rotate_left 1; try clear o310_; (refine Or.elim o92_ (fun o119_ => ?_) (fun o120_ => ?_); rotate_left 1; try clear o92_; rcases o120_ with rfl | rfl | rfl; rotate_right 1; try clear o92_; subst o119_); rotate_right 1; try clear o310_; subst o91_); rotate_right 1; try clear h; subst o309_) <;> exact okT_of (by decide) (by decide)
theorem law_8a {c : Amb} {cells : List V} {ps : List (Str × Str)} {ks : KT} {fl : List Str} {en : Str} {lab dn : List Int} {ds : Nat → Str} {t₀ : Nat} {vars'' : Vars} {f : Fl} {H'' : List MO} (hn1 : 1 ≤ c.n) (hR : Room (lawC c) 20) (h0 : 1 ≤ t₀) (h9 : lab.length = 9) (hk : KsOk ks) (ho : Hok ps) (hdue : ∀ k, k < 3 → Due lab ks 4 k (ds k))
    (k : TS (lawC c) (lawE c) (lawY t₀ en lab ds (namesL ps)) (lawH cells ps ks fl) ((lawL c.w).body.drop 22) f vars'' H'') :
    TS (lawC c) (lawE c) (lawX t₀ en lab dn) (lawH cells ps ks fl) ((lawL c.w).body.drop 20) f vars'' H'' := by
  unfold lawC lawE at *
  dsimp only [lawL, List.drop] at k hR ⊢
  have hR7 := hR.le (lv' := 7) (by lia)
  have hR6 := hR.le (lv' := 6) (by lia)
  refine TS_next (TS1_assign (v := .lst ((List.range 3).map fun (k : Nat) => V.str (ds k))) (H1 := lawH cells ps ks fl) (TE_comp (H1 := lawH cells ps ks fl) (xs := rngV 3) (cl := ?cl) (own := []) [(Str.ofString "label", .lst (cohL t₀ lab)), (Str.ofString "kids", .obj 4)] (ItR_range (n := 3) (m := 3) (r := fun _ => True) ?r1 ?r2 rfl (by decide) ?r3) ?b1 ?cc1 ?d1 ?e1 ?f1 ?g1 ?hsz ?h1) ?hx ?hsw) ?_
  case r1 => walk_at "te"
  case r2 => walk_at "te"
  case r3 => with_unfolding_all rfl
  case hsw => with_unfolding_all rfl
  case hx => walk_at "store"
  case b1 => with_unfolding_all rfl
  case cc1 => rfl
  case d1 => decide
  case e1 => intro _; rfl
  case f1 => walk_at "cap"
  case g1 => exact fun C _ => OwnOk.nil
  case hsz => rw [sizeLine_eq]; decide
  case h1 =>
    intro C mm
    have hR2 := Room.fm (m := some mm) hR6
    refine CmpR_map trivial fun j hj => ?_
    have hj4 : j < 3 := List.mem_range.mp hj
    have hm : Meets c.w 6 1 (.ref 382) [.lst (cohL t₀ lab), .obj 4, .int (j : Int)] (lawH cells ps ks fl) (.str (ds j)) (lawH cells ps ks fl) := due_m (w := c.w) (H := lawH cells ps ks fl) (i := 4) rfl h0 h9 (Nat.le_trans hk.few (by decide)) (fun p hp => (hk.key p hp).2.1) hk.srt (hdue j hj4)
    exact ⟨_, by walk_at "tas", by walk_at "ext", by walk_at "te"⟩
  have hh : HdrAt (lawH cells ps ks fl) 2 1 3 (ps.map pairV) := ⟨rfl, rfl, rfl⟩
  refine TS_next (TS1_acomp (H1 := lawH cells ps ks fl) (H2 := lawH cells ps ks fl) (xs := [88, 121, 90].map fun k => V.strP (strL [k]) fun t => (lawC c).n ≤ t) (ys := (namesL ps).map fun k => V.str (strL [k])) (cl := ?cl2) (own := []) [(Str.ofString "bound", .obj 2)] ?hx2 ?hsw2 (ItR_of (x := V.strP (Str.ofString "XyZ") fun _ => True) (KH := fun _ => True) ?it2 ?wk2 trivial) ?b12 ?cc12 ?d12 ?e12 ?f12 ?g12 ?hsz2 ?h12) ?_
  case it2 => walk_at "te"
  case wk2 =>
    have ex : (Str.ofString "XyZ").cps.toList = [88, 121, 90] := by decide +kernel
    rw [← ex]
    exact walk_str (by decide +kernel)
  case hsw2 => with_unfolding_all rfl
  case hx2 => walk_at "store"
  case b12 => with_unfolding_all rfl
  case cc12 => rfl
  case d12 => decide
  case e12 => intro _; rfl
  case f12 => walk_at "cap"
  case g12 => exact fun C _ => OwnOk.nil
  case hsz2 => rw [sizeLine_eq]; show 3 ≤ 16777216; decide
  case h12 =>
    intro C mm
    have hR2 := Room.fm (m := some mm) hR7
    have hR3 := hR2.le (lv' := 2) (by lia)
    unfold namesL
    refine CmpR_filter trivial (fun k hk => ?_) _ (fun _ _ h => h)
    have hok : OkT (strL [k]) := name_plain (by simp at hk; lia)
    have hg := ogetitem_m (w := c.w) hh ho.head hok.len hok.lo
    refine ⟨_, TAs.weakS (by walk_at "tas"), by walk_at "ext", ?_, fun _ => by walk_at "te"⟩
    have hi := isnot_o (w := c.w) (H := lawH cells ps ks fl) (o := hget ps (strL [k]))
    refine CTest.one ?_
    walk_at "tb"
  exact TS_strong k (lookup_sub (by with_unfolding_all exact List.forall_mem_cons.mpr ⟨rfl, List.forall_mem_cons.mpr ⟨rfl, List.forall_mem_cons.mpr ⟨rfl, List.forall_mem_cons.mpr ⟨rfl, List.forall_mem_cons.mpr ⟨rfl, fun _ h => absurd h List.not_mem_nil⟩⟩⟩⟩⟩))
end
section
local macro_rules | `(tactic| walk_at "pc") => `(tactic| walk_at "!PC_meets a:as n:as r:as")
noncomputable abbrev lawG (cells : List V) (ps : List (Str × Str)) (ks : KT) (fl : List Str) (qs : List (Str × Str)) : List MO := [.list cells, .idict (some (.obj 3)), .inst 1, .list (ps.map pairV), .dict (ks.map kidV), .list (fl.map V.str), .list (ps.map pairV), .list (qs.map pairV), .idict (some (.obj 7)), .inst 8]
noncomputable abbrev lawZ (t₀ : Nat) (en : Str) (lab : List Int) (ds : Nat → Str) (nl : List Nat) : Vars := [(Str.ofString "bound", .obj 2), (Str.ofString "end", .str en), (Str.ofString "label", .lst (cohL t₀ lab)), (Str.ofString "due", .lst ((List.range 3).map fun (k : Nat) => V.str (ds k))), (Str.ofString "names", .lst (nl.map fun k => V.str (strL [k]))), (Str.ofString "again", .obj 9)]
noncomputable abbrev again0 (ps : List (Str × Str)) (nl : List Nat) : List (Str × Str) := ps ++ nl.map fun k => (strL [k], Str.ofString "229 (|||9|)")
inductive Again : List Nat → List (Str × Str) → List (Str × Str) → Prop
  | nil {qs : List (Str × Str)} : Again [] qs qs
  | cons {k : Nat} {ks : List Nat} {qs qs' : List (Str × Str)} {v : Str} : OkT (strL [k]) → Hok qs → hget qs (strL [k]) = some v → OkT v → Again ks (hdel qs (strL [k]) ++ [(strL [k], v)]) qs' → Again (k :: ks) qs qs'
theorem law_8b {c : Amb} {cells : List V} {ps : List (Str × Str)} {ks : KT} {fl : List Str} {en : Str} {lab : List Int} {ds : Nat → Str} {nl : List Nat} {t₀ : Nat} {vars'' : Vars} {f : Fl} {H'' : List MO} (hn1 : 1 ≤ c.n) (hR : Room (lawC c) 20) (ho : Hok ps) (hnl : nl.length ≤ 10) (hp2 : allPlain (again0 ps nl))
    (k : TS (lawC c) (lawE c) (lawZ t₀ en lab ds nl) (lawG cells ps ks fl (again0 ps nl)) ((lawL c.w).body.drop 23) f vars'' H'') :
    TS (lawC c) (lawE c) (lawY t₀ en lab ds nl) (lawH cells ps ks fl) ((lawL c.w).body.drop 22) f vars'' H'' := by
  unfold lawC lawE at *
  dsimp only [lawL, List.drop] at k hR ⊢
  have hR4 := hR.le (lv' := 4) (by lia)
  have hR2 := hR.le (lv' := 2) (by lia)
  have hps := ho.few
  have hh : HdrAt (lawH cells ps ks fl) 2 1 3 (ps.map pairV) := ⟨rfl, rfl, rfl⟩
  obtain ⟨hhi, hhj, hhk⟩ := id hh
  have hit : Meets c.w 2 1 (.ref 250) [.obj 2] (lawH cells ps ks fl) (.obj 6) (lawH cells ps ks fl ++ [MO.list (ps.map pairV)]) := items_m (w := c.w) hh (by rw [List.length_map]; lia)
  refine TS_next (TS1_assign (v := .obj 9) (H1 := lawG cells ps ks fl (again0 ps nl)) ?call ?hx ?hsw) (TS_strong k ?wk)
  case hx => walk_at "store"
  case hsw => with_unfolding_all rfl
  case wk => with_unfolding_all exact fun y v h => h
  case call =>
    refine' TE_call (he := ?z4) (hp := ?z5) ?z6 ?z7 (TEs_cons (hs := ?z8) (TE_bin ?it ?comp ?add) TEs_nil) (make_1 (c := lawC c) (k := 7) (ps := again0 ps nl) (H := lawH cells ps ks fl ++ [MO.list (ps.map pairV)] ++ [MO.list ((again0 ps nl).map pairV)]) rfl hp2 hn1 hR4)
    case z4 => with_unfolding_all rfl
    case z5 => with_unfolding_all rfl
    case z6 => walk_at "te"
    case z7 => walk_at "kept"
    case z8 => with_unfolding_all rfl
    case add =>
      show PO _ _ _ _ _ _ (.lst (nl.map fun k => V.tup [.str (strL [k]), .str (Str.ofString "229 (|||9|)")])) (.obj 7) (lawH cells ps ks fl ++ [MO.list (ps.map pairV)] ++ [MO.list ((again0 ps nl).map pairV)])
      rw [show (again0 ps nl).map pairV = ps.map pairV ++ nl.map fun k => V.tup [.str (strL [k]), .str (Str.ofString "229 (|||9|)")] by unfold again0; rw [List.map_append, List.map_map]; rfl]
      exact PO_addL (H := lawH cells ps ks fl ++ [MO.list (ps.map pairV)]) (i := 6) (xs := ps.map pairV) (zs := nl.map fun k => V.tup [.str (strL [k]), .str (Str.ofString "229 (|||9|)")]) rfl (by rw [List.length_map, List.length_map]; lia)
    case it => walk_at "te"
    case comp =>
      refine TE_comp (H1 := lawH cells ps ks fl ++ [MO.list (ps.map pairV)]) (xs := nl.map fun k => V.str (strL [k])) (cl := ?cl) (own := []) [] (ItR_of (KH := fun _ => True) ?itt walk_lst trivial) ?b1 ?cc1 ?d1 ?e1 ?f1 ?g1 ?hsz ?h1
      case itt => walk_at "te"
      case b1 => with_unfolding_all rfl
      case cc1 => rfl
      case d1 => decide
      case e1 => intro _; rfl
      case f1 => walk_at "cap"
      case g1 => exact fun C _ => OwnOk.nil
      case hsz => rw [sizeLine_eq, List.length_map]; lia
      case h1 =>
        intro C mm
        refine CmpR_map trivial fun k hk => ?_
        exact ⟨_, by walk_at "tas", by walk_at "ext", by walk_at "te"⟩
theorem Again.open {ks : List Nat} {qs qs' : List (Str × Str)} (h : Again ks qs qs') : (ks = [] ∧ qs' = qs) ∨ ∃ k ks0 v, ks = k :: ks0 ∧ OkT (strL [k]) ∧ Hok qs ∧ hget qs (strL [k]) = some v ∧ OkT v ∧ Again ks0 (hdel qs (strL [k]) ++ [(strL [k], v)]) qs' := by
  cases h with
  | nil => exact .inl ⟨rfl, rfl⟩
  | cons h1 h2 h3 h4 h5 => exact .inr ⟨_, _, _, rfl, h1, h2, h3, h4, h5⟩
theorem law_8c {c : Amb} {cells : List V} {ps qs qs' : List (Str × Str)} {ks : KT} {fl : List Str} {en : Str} {lab : List Int} {ds : Nat → Str} {nl : List Nat} {t₀ : Nat} {vars'' : Vars} {f : Fl} {H'' : List MO} (hn1 : 1 ≤ c.n) (hR : Room (lawC c) 20) (hA : Again nl qs qs')
    (k : TS (lawC c) (lawE c) (lawZ t₀ en lab ds nl) (lawG cells ps ks fl qs') ((lawL c.w).body.drop 24) f vars'' H'') :
    TS (lawC c) (lawE c) (lawZ t₀ en lab ds nl) (lawG cells ps ks fl qs) ((lawL c.w).body.drop 23) f vars'' H'' := by
  unfold lawC lawE at *
  dsimp only [lawL, List.drop] at k hR ⊢
  have hR7 := hR.le (lv' := 7) (by lia)
  have hR2 := hR.le (lv' := 2) (by lia)
  refine TS_forI (H1 := lawG cells ps ks fl qs) (KH := fun _ => True) (fun xs us H' => ∃ r qs1, xs = r.map (fun (k : Nat) => V.str (strL [k])) ∧ Again r qs1 qs' ∧ H' = lawG cells ps ks fl qs1 ∧ us = lawZ t₀ en lab ds nl)
    (fun us H' => H' = lawG cells ps ks fl qs' ∧ us = lawZ t₀ en lab ds nl)
    (ItR_of (KH := fun _ => True) (by walk_at "te") walk_lst trivial) ⟨nl, qs, rfl, hA, rfl, rfl⟩ (fun _ => rfl) ?_ ?_ ?_
  · (intro x xs us H' q57_; (refine e24 q57_ fun r qs1 hl hA1 q168_ q169_ => ?_; try clear q57_; subst q168_; subst q169_))
    refine ⟨trivial, ?_⟩
    (refine Or.elim (hA1.open) (fun o311_ => ?_) (fun o312_ => ?_); rotate_left 1; (refine e36 o312_ fun k0 ks0 v q42_ o1 o2 o3 o4 o5 => ?_; try clear o312_; subst q42_); rotate_right 1; (refine e02 o311_ fun q43_ _ => ?_; try clear o311_; subst q43_))
    · exact cn hl
    · rw [List.map_cons] at hl
      injection hl with h1 h2
      subst h1 h2
      have hh : HdrAt (lawG cells ps ks fl qs1) 9 8 7 (qs1.map pairV) := ⟨rfl, rfl, rfl⟩
      have hg := ogetitem_m (w := c.w) hh o2.head o1.len o1.lo
      rw [o3] at hg
      have hg' : Meets c.w 7 1 (.ref 80) [.obj 9, .str (strL [k0])] (lawG cells ps ks fl qs1) (.str v) (lawG cells ps ks fl qs1) := hg
      have hs := osetitem_m (w := c.w) hh o2.head o1.len o1.lo o1.pl o4.pl
      have hi := isnot_N (w := c.w) (H := (lawG cells ps ks fl qs1).set 7 (.list ((hdel qs1 (strL [k0]) ++ [(strL [k0], v)]).map pairV)))
      refine .go (fl := .next) (vars2 := lawZ t₀ en lab ds nl) (by walk_at "tas") (TS_weak (vars1 := setv (Str.ofString "name") (.str (strL [k0])) (lawZ t₀ en lab ds nl)) ?body ?wk) rfl ⟨ks0, _, rfl, o5, rfl, rfl⟩
      case wk => exact fun y v hl => lookup_pre hl
      case body =>
        rw [show lawG cells ps ks fl (hdel qs1 (strL [k0]) ++ [(strL [k0], v)]) = (lawG cells ps ks fl qs1).set 7 (.list ((hdel qs1 (strL [k0]) ++ [(strL [k0], v)]).map pairV)) from rfl]
        walk_at "ts"
  · (intro us H' q58_; (refine e24 q58_ fun r qs1 hl hA1 q170_ q171_ => ?_; try clear q58_; subst q170_; subst q171_))
    (refine Or.elim (hA1.open) (fun o313_ => ?_) (fun o314_ => ?_); rotate_left 1; (refine e32 o314_ fun k0 ks0 v q44_ _ => ?_; try clear o314_; subst q44_); rotate_right 1; (refine e02 o313_ fun q45_ q46_ => ?_; try clear o313_; subst q45_; subst q46_))
    · exact ⟨trivial, .inl ⟨_, _, TS_nil, rfl, rfl⟩⟩
    · exact nc hl
  · (intro us H' q59_; (refine e02 q59_ fun q172_ q173_ => ?_; try clear q59_; subst q172_; subst q173_))
    exact k
end
section
local macro_rules | `(tactic| walk_at "pc") => `(tactic| walk_at "!PC_meets a:as n:as r:as")
theorem kq_texts {l : List Str} (h : ∀ x ∈ l, PyData.strOk x = true) : kqdOk 8 ((V.lst (l.map V.str)).D H) = true := by
  show kqdOk 8 (.list (Vs.D0 (l.map V.str))) = true
  rw [Vs.D0_map, List.map_map]
  simp only [kqdOk, List.all_map, List.all_eq_true]
  intro x hx
  show kqdOk 7 (.str x) = true
  simp [kqdOk, h x hx]
theorem law_8d {c : Amb} {cells : List V} {ps qs : List (Str × Str)} {ks : KT} {fl : List Str} {lab : List Int} {ds : Nat → Str} {nl : List Nat} {t₀ : Nat} {vars'' : Vars} {f : Fl} {H'' : List MO} (hn1 : 1 ≤ c.n) (hR : Room (lawC c) 20) (h0 : 1 ≤ t₀) (ho : Hok qs) (hlab : ∀ v ∈ lab, 0 ≤ v ∧ v ≤ 256) (hkeys : qs.map (·.1) = nl.map fun k => strL [k]) (hnl : ∀ k ∈ nl, OkT (strL [k])) (hds : ∀ k, k < 3 → PyData.strOk (ds k) = true)
    (htold : ∀ p ∈ [(120, 0), (89, 1), (122, 2)], Told qs lab 4 (strL [p.1]) (ds p.2))
    (k : TS (lawC c) (lawE c) (lawZ t₀ (Str.ofString "one") lab ds nl) (lawG cells ps ks fl qs) ((lawL c.w).body.drop 25) f vars'' H'') :
    TS (lawC c) (lawE c) (lawZ t₀ (Str.ofString "one") lab ds nl) (lawG cells ps ks fl qs) ((lawL c.w).body.drop 24) f vars'' H'' := by
  unfold lawC lawE at *
  dsimp only [lawL, List.drop] at k hR ⊢
  have hR13 := hR.le (lv' := 13) (by lia)
  have hR2 := hR.le (lv' := 2) (by lia)
  have hh : HdrAt (lawG cells ps ks fl qs) 9 8 7 (qs.map pairV) := ⟨rfl, rfl, rfl⟩
  obtain ⟨hhi, hhj, hhk⟩ := id hh
  have hks := keys_m (w := c.w) hh ho.head
  rw [show (qs.map fun p => V.str p.1) = nl.map fun k => V.str (strL [k]) by
    have := congrArg (List.map V.str) hkeys
    rw [List.map_map, List.map_map] at this; exact this] at hks
  have e1 : (Str.ofString "one" != Str.ofString "one") = false := by decide
  have hkq1 : kqdOk 8 ((V.lst (nl.map fun k => V.str (strL [k]))).D (lawG cells ps ks fl qs)) = true := by
    have := kq_texts (H := lawG cells ps ks fl qs) (l := nl.map fun k => strL [k]) (fun x hx => by
      (refine e12 (List.mem_map.mp hx) fun k hk q174_ => ?_; subst q174_)
      exact plain_ok (hnl k hk).pl.1)
    rw [List.map_map] at this; exact this
  have hkq2 : kqdOk 8 ((V.lst ((List.range 3).map fun (k : Nat) => V.str (ds k))).D (lawG cells ps ks fl qs)) = true := by
    have := kq_texts (H := lawG cells ps ks fl qs) (l := (List.range 3).map ds) (fun x hx => by
      (refine e12 (List.mem_map.mp hx) fun k hk q175_ => ?_; subst q175_)
      exact hds k (List.mem_range.mp hk))
    rw [List.map_map] at this; exact this
  refine TS_next (vars' := lawZ t₀ (Str.ofString "one") lab ds nl) (H1 := lawG cells ps ks fl qs) ?iff k
  case iff =>
    refine' TS1_if' (q := false) (H1 := lawG cells ps ks fl qs) ?ua (Or.inr ⟨rfl, TS_nil⟩)
    refine' TB_or' (p := false) (H1 := lawG cells ps ks fl qs) ?va (Or.inr ⟨rfl, ?vb⟩)
    case va => rw [← e1]; walk_at "tb"
    case vb =>
      refine' TB_or' (p := false) (H1 := lawG cells ps ks fl qs) ?wa (Or.inr ⟨rfl, ?wb⟩)
      case wa =>
        refine' TB_cmp (hm := ?m1) ?m2 ?m3 (PO_neV hkq1 hkq1 ?m4 (neV_false rfl))
        case m1 => with_unfolding_all rfl
        case m2 => walk_at "te"
        case m3 => walk_at "te"
        case m4 => walk_at "room"
      case wb =>
        refine' TB_or' (p := false) (H1 := lawG cells ps ks fl qs) ?xa (Or.inr ⟨rfl, TB_or0⟩)
        refine' TB_cmp (hm := ?m5) (TE_comp (H1 := lawG cells ps ks fl qs) (H2 := lawG cells ps ks fl qs) (xs := [(120, 0), (89, 1), (122, 2)].map fun p : Nat × Nat => V.strP (strL [p.1]) fun t => (lawC c).n ≤ t) (ys := [(120, 0), (89, 1), (122, 2)].map fun p : Nat × Nat => V.str (ds p.2)) (cl := ?cl) (own := []) [(Str.ofString "label", .lst (cohL t₀ lab)), (Str.ofString "again", .obj 9)] (ItR_of (x := V.strP (Str.ofString "xYz") fun _ => True) (KH := fun _ => True) ?it ?wk2 trivial) ?b1 ?cc1 ?d1 ?e1 ?f1 ?g1 ?hsz ?h1) ?m6 (PO_neV hkq2 hkq2 ?m7 (neV_false rfl))
        case m5 => with_unfolding_all rfl
        case m6 => walk_at "te"
        case m7 => walk_at "room"
        case it => walk_at "te"
        case wk2 =>
          have ex : (Str.ofString "xYz").cps.toList = [120, 89, 122] := by decide +kernel
          show Walk _ _ _ ([120, 89, 122].map fun k => V.strP (strL [k]) fun t => (lawC c).n ≤ t) _
          rw [← ex]
          exact walk_str (by decide +kernel)
        case b1 => with_unfolding_all rfl
        case cc1 => rfl
        case d1 => decide
        case e1 => intro _; rfl
        case f1 => walk_at "cap"
        case g1 => exact fun C _ => OwnOk.nil
        case hsz => rw [sizeLine_eq]; show 3 ≤ 16777216; decide
        case h1 =>
          intro C mm
          have hR3 := Room.fm (m := some mm) hR13
          refine CmpR_map trivial fun p hp => ?_
          have hm : Meets c.w 13 1 (.ref 372) [.obj 9, .lst (cohL t₀ lab), .str (strL [p.1])] (lawG cells ps ks fl qs) (.str (ds p.2)) (lawG cells ps ks fl qs) := told_m (w := c.w) hh ho h0 hlab (htold p hp)
          exact ⟨_, TAs.weakS (by walk_at "tas"), by walk_at "ext", by walk_at "te"⟩
local macro_rules | `(tactic| walk_at "po") => `(tactic| walk_at "!PO_itemL j=j hi hx hj hs ; hi:u hx:as hj:as hs:z2")
noncomputable def dueSelf (ds : Nat → Str) : List Nat := (List.range 3).filter fun k => ds k == Txt.item (Str.ofString "xyz") (k : Int)
theorem law_8e {c : Amb} {cells : List V} {ps qs : List (Str × Str)} {ks : KT} {fl : List Str} {lab : List Int} {ds : Nat → Str} {nl : List Nat} {t₀ : Nat} {en : Str} (hn1 : 1 ≤ c.n) (hR : Room (lawC c) 20) (ho : Hok ps) (hcount : (ps.length : Int) = 3 - ((dueSelf ds).length : Int)) :
    TS (lawC c) (lawE c) (lawZ t₀ en lab ds nl) (lawG cells ps ks fl qs) ((lawL c.w).body.drop 25) (.ret (.bool true)) [] (lawG cells ps ks fl qs ++ [MO.list (ps.map pairV)] ++ [MO.list (ps.map pairV)] ++ [.idict (some (.obj 14)), .inst 12, .list []]) := by
  unfold lawC lawE at *
  dsimp only [lawL, List.drop] at hR ⊢
  have hR6 := hR.le (lv' := 6) (by lia)
  have hR4 := hR.le (lv' := 4) (by lia)
  have hR2 := hR.le (lv' := 2) (by lia)
  have hps := ho.few
  have hps' : (ps.map pairV).length ≤ 1000 := by rw [List.length_map]; lia
  have hh : HdrAt (lawG cells ps ks fl qs) 2 1 3 (ps.map pairV) := ⟨rfl, rfl, rfl⟩
  have hh2 : HdrAt (lawG cells ps ks fl qs ++ [MO.list (ps.map pairV)]) 2 1 3 (ps.map pairV) := ⟨rfl, rfl, rfl⟩
  have hh3 : HdrAt (lawG cells ps ks fl qs ++ [MO.list (ps.map pairV)] ++ [MO.list (ps.map pairV)]) 2 1 3 (ps.map pairV) := ⟨rfl, rfl, rfl⟩
  obtain ⟨a1, a2, a3⟩ := id hh
  obtain ⟨b1, b2, b3⟩ := id hh2
  obtain ⟨c1, c2, c3⟩ := id hh3
  have hi1 : Meets c.w 2 1 (.ref 250) [.obj 2] (lawG cells ps ks fl qs) (.obj 10) (lawG cells ps ks fl qs ++ [MO.list (ps.map pairV)]) := items_m (w := c.w) hh hps'
  have hi2 : Meets c.w 2 1 (.ref 250) [.obj 2] (lawG cells ps ks fl qs ++ [MO.list (ps.map pairV)]) (.obj 11) (lawG cells ps ks fl qs ++ [MO.list (ps.map pairV)] ++ [MO.list (ps.map pairV)]) := items_m (w := c.w) hh2 hps'
  have hno : Meets c.w 2 1 (.ref 52) [.obj 10, .obj 11] (lawG cells ps ks fl qs ++ [MO.list (ps.map pairV)] ++ [MO.list (ps.map pairV)]) (.bool true) (lawG cells ps ks fl qs ++ [MO.list (ps.map pairV)] ++ [MO.list (ps.map pairV)]) := isnot_L (w := c.w) (xs := ps.map pairV) (ys := ps.map pairV) rfl rfl (by decide)
  have hl1 : Meets c.w 6 1 (.ref 102) [.obj 2] (lawG cells ps ks fl qs ++ [MO.list (ps.map pairV)] ++ [MO.list (ps.map pairV)]) (.int ((ps.map pairV).length : Int)) (lawG cells ps ks fl qs ++ [MO.list (ps.map pairV)] ++ [MO.list (ps.map pairV)]) := hint_m (w := c.w) hh3 hps'
  generalize hHE : lawG cells ps ks fl qs ++ [MO.list (ps.map pairV)] ++ [MO.list (ps.map pairV)] = HE at *
  have hHl : HE.length = 12 := by rw [← hHE]; rfl
  have hmk : ∀ {e : Sc} {vars : Vars}, PC (lawC c) e vars HE (.ref 286) [] (.obj 13) (HE ++ [.idict (some (.obj 14)), .inst 12, .list []]) := fun {e vars} => by
    have := make_0 (c := lawC c) (e := e) (vars := vars) (H := HE) hn1 hR4
    rw [hHl] at this; exact this
  have hh4 : HdrAt (HE ++ [.idict (some (.obj 14)), .inst 12, .list []]) 13 12 14 [] := by
    have := hdr_0 (H := HE)
    rw [hHl] at this; exact this
  have hl2 : Meets c.w 6 1 (.ref 102) [.obj 13] (HE ++ [.idict (some (.obj 14)), .inst 12, .list []]) (.int 0) (HE ++ [.idict (some (.obj 14)), .inst 12, .list []]) := hint_m (w := c.w) (xs := []) hh4 (by decide)
  refine TS_next (vars' := lawZ t₀ en lab ds nl) (H1 := HE) ?iff ?_
  case iff =>
    refine' TS1_if' (q := !true) (H1 := HE) ?ua (Or.inr ⟨rfl, TS_nil⟩)
    walk_at "tb"
  generalize hHF : HE ++ [.idict (some (.obj 14)), .inst 12, .list []] = HF at *
  have hkq : ∀ a b : Int, kqdOk 8 ((V.lst [.int a, .int b]).D HF) = true := fun a b => rfl
  have heq : (V.lst [.int ((ps.map pairV).length : Int), .int 0]).D HF = (V.lst [.int (3 - ((dueSelf ds).length : Int)), .int 0]).D HF ↔ true = true := by
    rw [List.length_map, hcount]; exact eqV_true rfl
  refine' TS_ret (TS1_return (TE_cmp (hm := ?m1) (TE_listF (xs := [.int ((ps.map pairV).length : Int), .int 0]) (H1 := HF) (hl := ?l1) ?lhs) (TE_listF (xs := [.int (3 - ((dueSelf ds).length : Int)), .int 0]) (H1 := HF) (hl := ?l2) ?rhs) (PO_eqV (hkq _ _) (hkq _ _) ?m4 heq)))
  case m1 => with_unfolding_all rfl
  case l1 => rw [sizeLine_eq]; show 2 ≤ 16777216; decide
  case l2 => rw [sizeLine_eq]; show 2 ≤ 16777216; decide
  case m4 => walk_at "room"
  case lhs =>
    refine' TEs_cons (H1 := HE) (hs := ?s1) ?e1 (TEs_cons (H1 := HF) (hs := ?s2) (TE_call (he := ?m2) (hp := ?m3) ?a ?b (TEs_cons (H1 := HF) (hs := ?s3) (TE_call0 ?c1 ?c2 hmk) TEs_nil) (PC_meets hl2 hn1 hR6)) TEs_nil)
    case s1 => with_unfolding_all rfl
    case s2 => with_unfolding_all rfl
    case s3 => with_unfolding_all rfl
    case m2 => with_unfolding_all rfl
    case m3 => with_unfolding_all rfl
    case e1 => walk_at "te"
    case a => walk_at "te"
    case b => walk_at "kept"
    case c1 => walk_at "te"
    case c2 => walk_at "kept"
    all_goals exact V.none
  case rhs =>
    refine' TEs_cons (H1 := HF) (hs := ?t1) (TE_bin (H1 := HF) (H2 := HF) (y := .int ((dueSelf ds).length : Int)) ?three (TE_call (he := ?t2) (hp := ?t3) ?t4 ?t5 (TEs_cons (H1 := HF) (hs := ?t6) ?comp TEs_nil) ?t7) PO_subI) ?zero
    case t1 => with_unfolding_all rfl
    case t2 => with_unfolding_all rfl
    case t3 => with_unfolding_all rfl
    case t4 => walk_at "te"
    case t5 => walk_at "kept"
    case t6 => with_unfolding_all rfl
    case three => walk_at "te"
    case zero => walk_at "tes"
    case t7 =>
      show PC _ _ _ _ _ [.lst ((dueSelf ds).map fun (k : Nat) => V.int (k : Int))] _ _
      rw [show ((dueSelf ds).length : Int) = (((dueSelf ds).map fun (k : Nat) => V.int (k : Int)).length : Int) by rw [List.length_map]]
      exact PC_lenF (by rw [List.length_map]; exact Nat.le_trans (List.length_filter_le _ _) (by decide))
    case comp =>
      refine TE_comp (H1 := HF) (xs := rngV 3) (cl := ?cl) (own := []) [(Str.ofString "due", .lst ((List.range 3).map fun (k : Nat) => V.str (ds k)))] (ItR_range (n := 3) (m := 3) (r := fun _ => True) ?r1 ?r2 rfl (by decide) ?r3) ?b1 ?cc1 ?d1 ?e1 ?f1 ?g1 ?hsz ?h1
      case r1 => walk_at "te"
      case r2 => walk_at "te"
      case r3 => with_unfolding_all rfl
      case b1 => with_unfolding_all rfl
      case cc1 => rfl
      case d1 => decide
      case e1 => intro _; rfl
      case f1 => walk_at "cap"
      case g1 => exact fun C _ => OwnOk.nil
      case hsz => rw [sizeLine_eq]; decide
      case h1 =>
        intro C mm
        unfold dueSelf
        refine CmpR_filter trivial (fun j hj => ?_) _ (fun _ _ h => h)
        have hj4 : j < 3 := List.mem_range.mp hj
        have gj : ((List.range 3).map fun (k : Nat) => V.str (ds k))[j]? = some (.str (ds j)) := by rw [List.getElem?_map, List.getElem?_range hj4]; rfl
        have hj6 : j < 1000000 := by lia
        have hxl : (Str.ofString "xyz").length = 3 := by decide
        have hr3 : 0 ≤ (j : Int) ∧ (j : Int) < ((Str.ofString "xyz").length : Int) ∧ (Str.ofString "xyz").length ≤ 16777216 := by
          rw [hxl]; lia
        refine ⟨_, by walk_at "tas", by walk_at "ext", ?_, fun _ => by walk_at "te"⟩
        refine CTest.one ?_
        walk_at "tb"
end
end Mine
end

section
open PySem PySem.W PyProof.Rows PySem.Calls PyProof.Rows.LCg
set_option Elab.async false
set_option linter.all false
set_option maxRecDepth 100000
set_option maxHeartbeats 2000000
namespace Mine
variable {ks : KT} {θ : Nat → Tree} {L : Nat → Int}
inductive Nd (ks : KT) : Str → Nat → Prop
  | leaf {a : Nat} {l : List Nat} : a < 5 → l ∈ leafTab a → Nd ks (strL l) a
  | pair {p : Nat × (Nat × Nat)} {l r : List Nat} : p ∈ ks → l ∈ leafTab p.2.1 → r ∈ leafTab p.2.2 → Nd ks (pairS (strL l) (strL r)) p.1
theorem Nd.ok (hk : KsOk ks) {t : Str} {m : Nat} (h : Nd ks t m) : OkT t := by
  cases h with
  | leaf ha hl => have := tab_fact ha _ hl; exact okT_of this.1 (by lia)
  | pair hp hl hr =>
    have h1 := hk.key _ hp
    have f1 := tab_fact h1.2.2.1 _ hl
    have f2 := tab_fact h1.2.2.2 _ hr
    rw [pairS_strL]
    exact okT_of (pairL_plain f1.1 f2.1) (by rename_i l r; have := pairL_len l r; lia)
theorem Nd.lt (hk : KsOk ks) {t : Str} {m : Nat} (h : Nd ks t m) : m < 9 := by
  cases h with
  | leaf ha hl => lia
  | pair hp hl hr => exact (hk.key _ hp).2.1
theorem Nd.name (hk : KsOk ks) {t : Str} {m : Nat} (h : Nd ks t m) (hm : m < 3) : t.length = 1 ∧ Txt.lower t = strL [120 + m] ∧ Rd t (.name t) := by
  cases h with
  | leaf ha hl =>
    (refine e03 (leaf_name hm hl) fun h1 h2 h3 => ?_)
    exact ⟨by rw [strL_len]; exact h2, h3, h1⟩
  | pair hp hl hr => have := (hk.key _ hp).1; lia
theorem Nd.big (hk : KsOk ks) {t : Str} {m : Nat} (h : Nd ks t m) (hm : 3 ≤ m) : t.length ≠ 1 := by
  cases h with
  | leaf ha hl =>
    (refine e02 (leaf_num hm ha hl) fun h1 h2 => ?_)
    rw [strL_len]; lia
  | pair hp hl hr => rw [pairS_strL, strL_len]; unfold pairL; simp
theorem Nd.kind (hk : KsOk ks) {t : Str} {m : Nat} (h : Nd ks t m) : (m < 3 ∧ Rd t (.name t)) ∨ (3 ≤ m ∧ m < 5 ∧ Rd t (.port (7 * m))) ∨ (∃ p ∈ ks, p.1 = m ∧ ∃ l r, Nd ks l p.2.1 ∧ Nd ks r p.2.2 ∧ Rd t (.pair l r)) := by
  cases h with
  | leaf ha hl =>
    rename_i l
    by_cases h3 : m < 3
    · exact .inl ⟨h3, (leaf_name h3 hl).1⟩
    · exact .inr (.inl ⟨by lia, ha, (leaf_num (by lia) ha hl).1⟩)
  | pair hp hl hr =>
    rename_i p l r
    have h1 := hk.key _ hp
    have f1 := tab_fact h1.2.2.1 _ hl
    have f2 := tab_fact h1.2.2.2 _ hr
    exact .inr (.inr ⟨_, hp, rfl, _, _, .leaf h1.2.2.1 hl, .leaf h1.2.2.2 hr, rd_pair f1.1 (by lia) (by lia) f1.2.2⟩)
theorem Nd.valid {t : Str} {m : Nat} (h : Nd ks t m) : m < 5 ∨ ∃ p ∈ ks, p.1 = m := by
  cases h with
  | leaf ha hl => exact .inl ha
  | pair hp hl hr => exact .inr ⟨_, hp, rfl⟩
structure Bd where
  x : Str
  i : Nat
  t : Str
  m : Nat
noncomputable def Bd.p (q : Bd) : Str × Str := (q.x, q.t)
structure St (ks : KT) (L : Nat → Int) (θ : Nat → Tree) (qs : List Bd) : Prop where
  ok : ∀ q ∈ qs, q.i < 3 ∧ Nd ks q.x q.i ∧ Nd ks q.t q.m ∧ L q.i = L q.m ∧ θ q.i = val ks θ q.m
  nd : qs.Pairwise (fun a b => a.i ≠ b.i)
  tri : qs.Pairwise (fun a b => b.m ≠ a.i)
  self : ∀ q ∈ qs, q.m ≠ q.i
  free : ∀ i, i < 3 → (∀ q ∈ qs, q.i ≠ i) → θ i = .nm i
theorem cnt_sum : ∀ qs : List Bd, (∀ q ∈ qs, q.i < 3) → qs.countP (·.i == 0) + qs.countP (·.i == 1) + qs.countP (·.i == 2) = qs.length
  | [], _ => rfl
  | q :: qs, h => by
    have ih := cnt_sum qs fun a ha => h a (.tail _ ha)
    have h3 := h q (.head _)
    simp only [List.countP_cons, List.length_cons]
    have : q.i = 0 ∨ q.i = 1 ∨ q.i = 2 := by lia
    (refine Or.elim this (fun e => ?_) (fun o315_ => ?_); rotate_left 1; try clear this; (refine Or.elim o315_ (fun e => ?_) (fun e => ?_); rotate_left 1; try clear o315_; rotate_right 1; try clear o315_); rotate_right 1; try clear this) <;> simp [e] <;> lia
theorem cnt_le (k : Nat) : ∀ qs : List Bd, qs.Pairwise (fun a b => a.i ≠ b.i) → qs.countP (·.i == k) ≤ 1
  | [], _ => Nat.zero_le _
  | q :: qs, h => by
    have ih := cnt_le k qs (List.Pairwise.of_cons h)
    rw [List.countP_cons]
    by_cases e : q.i = k
    · have : qs.countP (·.i == k) = 0 := by
        rw [List.countP_eq_zero]
        intro a ha
        have := List.rel_of_pairwise_cons h ha
        simp; lia
      rw [this]; split <;> lia
    · simp [e]; exact ih
theorem St.few {qs : List Bd} (S : St ks L θ qs) : qs.length ≤ 3 := by
  rw [← cnt_sum qs fun q hq => (S.ok q hq).1]
  have := cnt_le 0 qs S.nd
  have := cnt_le 1 qs S.nd
  have := cnt_le 2 qs S.nd
  lia
theorem St.hok {qs : List Bd} (hk : KsOk ks) (S : St ks L θ qs) : Hok (qs.map Bd.p) := by
  refine ⟨fun p hp => ?_, by rw [List.length_map]; have := S.few; lia⟩
  (refine e12 (List.mem_map.mp hp) fun q hq q176_ => ?_; subst q176_)
  have := S.ok q hq
  exact ⟨this.2.1.ok hk, this.2.2.1.ok hk⟩
noncomputable def fnd1 (qs : List Bd) (z : Str × Nat) : Str × Nat :=
  match qs.find? (fun q => q.i == z.2) with
  | some q => (q.t, q.m)
  | none => z
theorem find_congr {α : Type} {P Q : α → Bool} : ∀ {l : List α}, (∀ a ∈ l, P a = Q a) → l.find? P = l.find? Q
  | [], _ => rfl
  | a :: l, h => by
    rw [List.find?_cons, List.find?_cons, h a (.head _), find_congr fun b hb => h b (.tail _ hb)]
theorem sing_lt {a b : Nat} : (strL [a] == strL [b]) = (a == b) := sing_eq
theorem fnd1_spec (hk : KsOk ks) {qs : List Bd} (S : St ks L θ qs) {t : Str} {m : Nat} (h : Nd ks t m) : find1 (qs.map Bd.p) t = (fnd1 qs (t, m)).1 ∧ Nd ks (fnd1 qs (t, m)).1 (fnd1 qs (t, m)).2 := by
  unfold find1 fnd1
  dsimp only
  by_cases hm : m < 3
  · (refine e03 (h.name hk hm) fun h1 h2 h3 => ?_)
    rw [if_pos h1]
    have e : hget (qs.map Bd.p) t = (qs.find? (fun q => q.i == m)).map (·.t) := by
      unfold hget
      rw [List.find?_map, Option.map_map, h2]
      congr 1
      refine find_congr fun q hq => ?_
      have := S.ok q hq
      show (Txt.lower q.x == strL [120 + m]) = (q.i == m)
      rw [(this.2.1.name hk this.1).2.1, sing_lt, Bool.eq_iff_iff, beq_iff_eq, beq_iff_eq]; lia
    rw [e]
    cases q : qs.find? (fun q => q.i == m) with
    | none => exact ⟨rfl, h⟩
    | some b => exact ⟨rfl, (S.ok b (List.mem_of_find?_eq_some q)).2.2.1⟩
  · rw [if_neg (h.big hk (by lia))]
    have : qs.find? (fun q => q.i == m) = none := by
      rw [List.find?_eq_none]
      intro q hq; have := (S.ok q hq).1; simp; lia
    rw [this]
    exact ⟨rfl, h⟩
theorem fnd1_val (hk : KsOk ks) {qs : List Bd} {θ' : Nat → Tree} (h : ∀ q ∈ qs, q.i < 3 ∧ θ' q.i = val ks θ' q.m) (z : Str × Nat) : val ks θ' (fnd1 qs z).2 = val ks θ' z.2 := by
  unfold fnd1
  cases q : qs.find? (fun q => q.i == z.2) with
  | none => rfl
  | some b =>
    have h1 := h b (List.mem_of_find?_eq_some q)
    have h2 := List.find?_some q
    simp only [beq_iff_eq] at h2
    dsimp only
    rw [← h1.2, ← h2, val_name hk h1.1]
theorem fnd1_lab {qs : List Bd} (S : St ks L θ qs) (z : Str × Nat) : L (fnd1 qs z).2 = L z.2 := by
  unfold fnd1
  cases q : qs.find? (fun q => q.i == z.2) with
  | none => rfl
  | some b =>
    have h1 := S.ok b (List.mem_of_find?_eq_some q)
    have h2 := List.find?_some q
    simp only [beq_iff_eq] at h2
    dsimp only
    rw [← h2]; exact h1.2.2.2.1.symm
theorem fnd1_pos {qs : List Bd} (S : St ks L θ qs) {z : Str × Nat} {p' : Nat} {q' : Bd} (h : qs[p']? = some q') (e : q'.i = (fnd1 qs z).2) : ∃ p q, qs[p]? = some q ∧ q.i = z.2 ∧ p < p' := by
  unfold fnd1 at e
  cases f : qs.find? (fun q => q.i == z.2) with
  | none =>
    rw [f] at e
    rw [List.find?_eq_none] at f
    have := f q' (List.mem_of_getElem? h)
    simp [e] at this
  | some b =>
    rw [f] at e
    have h2 := List.find?_some f
    simp only [beq_iff_eq] at h2
    (refine Exists.elim (List.getElem?_of_mem (List.mem_of_find?_eq_some f)) fun p hp => ?_)
    refine ⟨p, b, hp, h2, ?_⟩
    (refine Exists.elim (List.getElem?_eq_some_iff.mp hp) fun hp1 hp2 => ?_)
    (refine Exists.elim (List.getElem?_eq_some_iff.mp h) fun hq1 hq2 => ?_)
    dsimp only at e
    (refine Or.elim (Nat.lt_trichotomy p p') (fun z => ?_) (fun o316_ => ?_); rotate_left 1; (refine Or.elim o316_ (fun z => ?_) (fun z => ?_); rotate_left 1; try clear o316_; rotate_right 1; try clear o316_); rotate_right 1)
    · exact z
    · subst z
      rw [hp2] at hq2; subst hq2
      exact absurd e.symm (S.self _ (List.mem_of_getElem? hp))
    · have := (List.pairwise_iff_getElem.mp S.tri) p' p hq1 hp1 z
      rw [hp2, hq2] at this
      exact absurd e.symm this
noncomputable def fnd3 (qs : List Bd) (z : Str × Nat) : Str × Nat := fnd1 qs (fnd1 qs (fnd1 qs z))
theorem fnd3_free {qs : List Bd} (S : St ks L θ qs) (z : Str × Nat) : ∀ q ∈ qs, q.i ≠ (fnd3 qs z).2 := by
  intro q hq e
  (refine Exists.elim (List.getElem?_of_mem hq) fun p3 h3 => ?_)
  (refine e23 (fnd1_pos S h3 e) fun p2 q2 h2 e2 l2 => ?_)
  (refine e23 (fnd1_pos S h2 e2) fun p1 q1 h1 e1 l1 => ?_)
  (refine e23 (fnd1_pos S h1 e1) fun p0 q0 h0 e0 l0 => ?_)
  (refine Exists.elim (List.getElem?_eq_some_iff.mp h3) fun hp1 _ => ?_)
  have := S.few
  lia
theorem St.sat {qs : List Bd} (S : St ks L θ qs) : ∀ q ∈ qs, q.i < 3 ∧ θ q.i = val ks θ q.m := fun q hq => ⟨(S.ok q hq).1, (S.ok q hq).2.2.2.2⟩
theorem find3_spec (hk : KsOk ks) {qs : List Bd} (S : St ks L θ qs) {t : Str} {m : Nat} (h : Nd ks t m) : ∃ m', Nd ks (find3 (qs.map Bd.p) t) m' ∧ L m' = L m ∧ (∀ θ', (∀ q ∈ qs, q.i < 3 ∧ θ' q.i = val ks θ' q.m) → val ks θ' m' = val ks θ' m) ∧ ∀ q ∈ qs, q.i ≠ m' := by
  (refine e02 (fnd1_spec hk S h) fun a1 b1 => ?_)
  (refine e02 (fnd1_spec hk S b1) fun a2 b2 => ?_)
  (refine e02 (fnd1_spec hk S b2) fun a3 b3 => ?_)
  refine ⟨(fnd3 qs (t, m)).2, ?_, ?_, fun θ' h' => ?_, fnd3_free S _⟩
  · unfold find3; rw [a1, a2, a3]; exact b3
  · unfold fnd3; rw [fnd1_lab S, fnd1_lab S, fnd1_lab S]
  · unfold fnd3; rw [fnd1_val hk h', fnd1_val hk h', fnd1_val hk h']
end Mine
end

section
open PySem PySem.W PyProof.Rows PySem.Calls PyProof.Rows.LCg
set_option Elab.async false
set_option linter.all false
set_option maxRecDepth 100000
set_option maxHeartbeats 2000000
namespace Mine
variable {ks : KT} {θ : Nat → Tree} {L : Nat → Int} {qs : List Bd}
theorem up1 {a b kb K : Nat} (h : a ≤ 1 ∨ a = 1 + b) (p : 0 < a → 1 ≤ kb) (hb : b ≤ K) : a ≤ kb + K := by
  (refine Or.elim h (fun h => ?_) (fun h => ?_))
  · (refine Or.elim (Nat.eq_zero_or_pos a) (fun z => ?_) (fun z => ?_))
    · exact z ▸ Nat.zero_le _
    · exact Nat.le_trans h (Nat.le_trans (p z) (Nat.le_add_right _ _))
  · exact h ▸ Nat.add_le_add (p (h ▸ Nat.lt_of_lt_of_le Nat.zero_lt_one (Nat.le_add_right 1 b))) hb
theorem ch0 {a k : Nat} (p : 0 < a → 1 ≤ k) (h : a ≤ 1) : a ≤ k := by
  (refine Or.elim (Nat.eq_zero_or_pos a) (fun z => ?_) (fun z => ?_))
  · exact z ▸ Nat.zero_le _
  · exact Nat.le_trans h (p z)
theorem ne1 {a : Nat} {P : Prop} (h : a = 1 + a) : P := absurd h (Nat.ne_of_lt (Nat.lt_add_of_pos_left Nat.zero_lt_one))
theorem ne2 {a b : Nat} {P : Prop} (h : a = 1 + b) (q : b = 1 + a) : P := by rw [q, ← Nat.add_assoc] at h; exact absurd h (Nat.ne_of_lt (Nat.lt_add_of_pos_left (by decide)))
theorem ne3 {a b c : Nat} {P : Prop} (h : a = 1 + b) (q : b = 1 + c) (r : c = 1 + a) : P := by rw [q, r, ← Nat.add_assoc, ← Nat.add_assoc] at h; exact absurd h (Nat.ne_of_lt (Nat.lt_add_of_pos_left (by decide)))
theorem chc {a b c kc : Nat} (hc : c ≤ 1 ∨ c = 1 + a ∨ c = 1 + b ∨ c = 1 + c) (pc : 0 < c → 1 ≤ kc) (h : a = 1 + b) (q : b = 1 + c) : c ≤ kc := by
  (refine Or.elim hc (fun z => ?_) (fun o121_ => ?_); rotate_left 1; try clear hc; rcases o121_ with z | z | z; rotate_right 1; try clear hc)
  · exact ch0 pc z
  · exact ne3 h q z
  · exact ne2 q z
  · exact ne1 z
theorem chb {a b c kb kc : Nat} (hb : b ≤ 1 ∨ b = 1 + a ∨ b = 1 + b ∨ b = 1 + c) (hc : c ≤ 1 ∨ c = 1 + a ∨ c = 1 + b ∨ c = 1 + c) (pb : 0 < b → 1 ≤ kb) (pc : 0 < c → 1 ≤ kc) (h : a = 1 + b) : b ≤ kb + kc := by
  (refine Or.elim hb (fun z => ?_) (fun o122_ => ?_); rotate_left 1; try clear hb; rcases o122_ with z | z | z; rotate_right 1; try clear hb)
  · exact Nat.le_trans (ch0 pb z) (Nat.le_add_right _ _)
  · exact ne2 h z
  · exact ne1 z
  · exact up1 (.inr z) pb (chc hc pc h z)
theorem ch3 {a b c ka kb kc : Nat} (ha : a ≤ 1 ∨ a = 1 + a ∨ a = 1 + b ∨ a = 1 + c) (hb : b ≤ 1 ∨ b = 1 + a ∨ b = 1 + b ∨ b = 1 + c) (hc : c ≤ 1 ∨ c = 1 + a ∨ c = 1 + b ∨ c = 1 + c)
    (pa : 0 < a → 1 ≤ ka) (pb : 0 < b → 1 ≤ kb) (pc : 0 < c → 1 ≤ kc) : a ≤ ka + (kb + kc) := by
  (refine Or.elim ha (fun z => ?_) (fun o123_ => ?_); rotate_left 1; try clear ha; rcases o123_ with z | z | z; rotate_right 1; try clear ha)
  · exact Nat.le_trans (ch0 pa z) (Nat.le_add_right _ _)
  · exact ne1 z
  · exact up1 (.inr z) pa (chb hb hc pb pc z)
  · refine up1 (.inr z) pa (Nat.add_comm kc kb ▸ chb ?_ ?_ pc pb z)
    · (refine Or.elim hc (fun q => ?_) (fun o124_ => ?_); rotate_left 1; try clear hc; rcases o124_ with q | q | q; rotate_right 1; try clear hc)
      · exact .inl q
      · exact .inr (.inl q)
      · exact .inr (.inr (.inr q))
      · exact .inr (.inr (.inl q))
    · (refine Or.elim hb (fun q => ?_) (fun o125_ => ?_); rotate_left 1; try clear hb; rcases o125_ with q | q | q; rotate_right 1; try clear hb)
      · exact .inl q
      · exact .inr (.inl q)
      · exact .inr (.inr (.inr q))
      · exact .inr (.inr (.inl q))
theorem St.ht3 (hk : KsOk ks) (S : St ks L θ qs) : ∀ i, i < 3 → (θ i).ht ≤ qs.length := by
  have key : ∀ i, i < 3 → ((θ i).ht ≤ 1 ∨ ∃ j, j < 3 ∧ (θ i).ht = 1 + (θ j).ht) ∧ (0 < (θ i).ht → 1 ≤ qs.countP (·.i == i)) := by
    intro i hi
    refine ⟨?_, fun h => ?_⟩
    · have hl : ∀ a, a < 5 → (val ks θ a).ht = 0 ∨ ∃ j, j < 3 ∧ (val ks θ a).ht = (θ j).ht := fun a ha => by
        by_cases h3 : a < 3
        · exact .inr ⟨a, h3, by rw [val_name hk h3]⟩
        · rw [val_num hk (by lia) ha]; exact .inl rfl
      obtain ⟨t, ht⟩ : ∃ t, Nd ks t i := by
        match i, hi with
        | 0, _ => exact ⟨_, .leaf (a := 0) (by decide) (.head _)⟩
        | 1, _ => exact ⟨_, .leaf (a := 1) (by decide) (.head _)⟩
        | 2, _ => exact ⟨_, .leaf (a := 2) (by decide) (.head _)⟩
      (refine e14 (find3_spec hk S ht) fun m' h1 _ h3 h4 => ?_)
      have e := h3 θ S.sat
      rw [val_name hk hi] at e
      rw [← e]
      (refine Or.elim (h1.kind hk) (fun o317_ => ?_) (fun o318_ => ?_); rotate_left 1; (refine Or.elim o318_ (fun o93_ => ?_) (fun o94_ => ?_); rotate_left 1; try clear o318_; (refine e13 o94_ fun p hp q85_ _ => ?_; try clear o94_; subst q85_); rotate_right 1; try clear o318_; (refine e03 o93_ fun q1 q2 _ => ?_; try clear o93_)); rotate_right 1; (refine e02 o317_ fun q _ => ?_; try clear o317_))
      · rw [val_name hk q, S.free m' q h4]; exact .inl (Nat.zero_le _)
      · rw [val_num hk q1 q2]; exact .inl (Nat.zero_le _)
      · have hkp := hk.key p hp
        have l1 := hl p.2.1 hkp.2.2.1
        have l2 := hl p.2.2 hkp.2.2.2
        rw [val_pair hk hp, ht_pr]
        (refine Or.elim (Nat.le_total (val ks θ p.2.1).ht (val ks θ p.2.2).ht) (fun z => ?_) (fun z => ?_))
        · rw [Nat.max_eq_right z]
          (refine Or.elim l2 (fun q => ?_) (fun o319_ => ?_); rotate_left 1; try clear l2; (refine e12 o319_ fun j hj q => ?_; try clear o319_); rotate_right 1; try clear l2)
          · rw [q]; exact .inl (Nat.le_refl _)
          · exact .inr ⟨j, hj, by rw [q]⟩
        · rw [Nat.max_eq_left z]
          (refine Or.elim l1 (fun q => ?_) (fun o320_ => ?_); rotate_left 1; try clear l1; (refine e12 o320_ fun j hj q => ?_; try clear o320_); rotate_right 1; try clear l1)
          · rw [q]; exact .inl (Nat.le_refl _)
          · exact .inr ⟨j, hj, by rw [q]⟩
    · (refine Or.elim (Nat.eq_zero_or_pos (qs.countP (·.i == i))) (fun z => ?_) (fun z => ?_))
      · rw [List.countP_eq_zero] at z
        rw [S.free i hi fun q hq e => z q hq (by simp [e])] at h
        exact absurd h (Nat.not_lt_zero _)
      · exact z
  have hs := cnt_sum qs fun q hq => (S.ok q hq).1
  (refine e02 (key 0 (by decide)) fun a0 b0 => ?_)
  (refine e02 (key 1 (by decide)) fun a1 b1 => ?_)
  (refine e02 (key 2 (by decide)) fun a2 b2 => ?_)
  have g : ∀ x, (x ≤ 1 ∨ ∃ j, j < 3 ∧ x = 1 + (θ j).ht) → x ≤ 1 ∨ x = 1 + (θ 0).ht ∨ x = 1 + (θ 1).ht ∨ x = 1 + (θ 2).ht := by
    (intro x q60_; (refine Or.elim q60_ (fun q => ?_) (fun o321_ => ?_); rotate_left 1; try clear q60_; (refine e12 o321_ fun j hj q => ?_; try clear o321_); rotate_right 1; try clear q60_))
    · exact .inl q
    · match j, hj with
      | 0, _ => exact .inr (.inl q)
      | 1, _ => exact .inr (.inr (.inl q))
      | 2, _ => exact .inr (.inr (.inr q))
  have c0 := g _ a0
  have c1 := g _ a1
  have c2 := g _ a2
  generalize e0 : (θ 0).ht = x0 at *
  generalize e1 : (θ 1).ht = x1 at *
  generalize e2 : (θ 2).ht = x2 at *
  rw [← hs]
  generalize qs.countP (·.i == 0) = k0 at *
  generalize qs.countP (·.i == 1) = k1 at *
  generalize qs.countP (·.i == 2) = k2 at *
  have sw : ∀ {p q r s : Prop}, p ∨ q ∨ r ∨ s → p ∨ r ∨ q ∨ s := fun h => h.imp_right or_left_comm.mp
  have ro : ∀ {p q r s : Prop}, p ∨ q ∨ r ∨ s → p ∨ s ∨ q ∨ r := fun h => h.imp_right fun h => Or.comm.mp (or_assoc.mpr h)
  have : x0 ≤ k0 + k1 + k2 ∧ x1 ≤ k0 + k1 + k2 ∧ x2 ≤ k0 + k1 + k2 := by
    rw [Nat.add_assoc]
    exact ⟨ch3 c0 c1 c2 b0 b1 b2, Nat.le_trans (ch3 (sw c1) (sw c0) (sw c2) b1 b0 b2) (Nat.le_of_eq (Nat.add_left_comm k1 k0 k2)), Nat.le_trans (ch3 (ro c2) (ro c0) (ro c1) b2 b0 b1) (Nat.le_of_eq ((Nat.add_comm k2 (k0 + k1)).trans (Nat.add_assoc k0 k1 k2)))⟩
  intro i hi
  match i, hi with
  | 0, _ => rw [e0]; exact this.1
  | 1, _ => rw [e1]; exact this.2.1
  | 2, _ => rw [e2]; exact this.2.2
theorem St.ht9 (hk : KsOk ks) (S : St ks L θ qs) {t : Str} {m : Nat} (h : Nd ks t m) : (val ks θ m).ht ≤ qs.length + (if m < 5 then 0 else 1) := by
  have hl : ∀ a, a < 5 → (val ks θ a).ht ≤ qs.length := fun a ha => by
    by_cases h3 : a < 3
    · rw [val_name hk h3]; exact S.ht3 hk a h3
    · rw [val_num hk (by lia) ha]; exact Nat.zero_le _
  (refine Or.elim (h.valid) (fun q => ?_) (fun o322_ => ?_); rotate_left 1; (refine e12 o322_ fun p hp q47_ => ?_; try clear o322_; subst q47_); rotate_right 1)
  · rw [if_pos q]; exact hl m q
  · have hkp := hk.key p hp
    rw [if_neg (by lia), val_pair hk hp, ht_pr]
    have l1 := hl p.2.1 hkp.2.2.1
    have l2 := hl p.2.2 hkp.2.2.2
    lia
noncomputable def sumF {α : Type} (f : α → Nat) (l : List α) : Nat := (l.map f).sum
theorem sumF_app {α : Type} (f : α → Nat) (a b : List α) : sumF f (a ++ b) = sumF f a + sumF f b := by
  unfold sumF; rw [List.map_append, List.sum_append]
theorem sumF_one {α : Type} (f : α → Nat) (a : α) : sumF f [a] = f a := by simp [sumF]
theorem sumF_two {α : Type} (f : α → Nat) (a b : α) : sumF f [a, b] = f a + f b := by simp [sumF]
theorem sumF_len {α : Type} (f : α → Nat) : ∀ l : List α, (∀ a ∈ l, 1 ≤ f a) → l.length ≤ sumF f l
  | [], _ => Nat.le_refl _
  | a :: l, h => by
    have ih := sumF_len f l fun b hb => h b (.tail _ hb)
    have h1 := h a (.head _)
    simp only [sumF, List.map_cons, List.sum_cons, List.length_cons] at *
    lia
theorem wit_ex (hk : KsOk ks) (S : St ks L θ qs) {x : Str} {i : Nat} (hx : Nd ks x i) (hi : i < 3) : ∀ (N : Nat) (td : List (Str × Nat)), sumF (fun z => (val ks θ z.2).sz) td ≤ N → (∀ z ∈ td, Nd ks z.1 z.2) → sumF (fun z => (val ks θ z.2).lv) td ≤ 300 →
    ∃ n b td', Wit (qs.map Bd.p) x n (td.map (·.1)) b td' ∧ (b = true ↔ ∃ z ∈ td, (val ks θ z.2).occ i) := by
  intro N
  induction N with
  | zero =>
    intro td h1 _ _
    match td, h1 with
    | [], _ => exact ⟨0, false, [], .nil, by simp⟩
    | z :: td, h1 =>
      simp only [sumF, List.map_cons, List.sum_cons] at h1
      have := (val ks θ z.2).sz_pos; lia
  | succ N ih =>
    intro td h1 h2 h3
    (refine Or.elim (List.eq_nil_or_concat td) (fun o323_ => ?_) (fun o324_ => ?_); rotate_left 1; (refine e21 o324_ fun td z q48_ => ?_; try clear o324_; subst q48_); rotate_right 1; subst o323_)
    · exact ⟨0, false, [], .nil, by simp⟩
    · rw [List.concat_eq_append] at h1 h2 h3 ⊢
      rw [sumF_app, sumF_one] at h1 h3
      have hz := h2 z (by simp)
      have h2' : ∀ z ∈ td, Nd ks z.1 z.2 := fun a ha => h2 a (List.mem_append_left _ ha)
      have hlen := sumF_len (fun z : Str × Nat => (val ks θ z.2).lv) td fun a _ => Tree.lv_pos _
      have hsz := (val ks θ z.2).sz_pos
      have hlv := (val ks θ z.2).lv_pos
      (refine e14 (find3_spec hk S hz) fun m' a1 _ a3 a4 => ?_)
      have e := a3 θ S.sat
      rw [List.map_append, List.map_cons, List.map_nil]
      (refine Or.elim (a1.kind hk) (fun o325_ => ?_) (fun o326_ => ?_); rotate_left 1; (refine Or.elim o326_ (fun o95_ => ?_) (fun o96_ => ?_); rotate_left 1; try clear o326_; (refine e13 o96_ fun p hp q86_ q87_ => ?_; try clear o96_; subst q86_; obtain ⟨l, r, hl, hr, rd⟩ := q87_); rotate_right 1; try clear o326_; (refine e03 o95_ fun q1 q2 r => ?_; try clear o95_)); rotate_right 1; (refine e02 o325_ fun q r => ?_; try clear o325_))
      · have ev : val ks θ z.2 = .nm m' := by rw [← e, val_name hk q]; exact S.free m' q a4
        have elo : (Txt.lower x == Txt.lower (find3 (qs.map Bd.p) z.1)) = (i == m') := by
          rw [(hx.name hk hi).2.1, (a1.name hk q).2.1, sing_lt, Bool.eq_iff_iff, beq_iff_eq, beq_iff_eq]; lia
        by_cases em : i = m'
        · refine ⟨1, true, _, .hit (hz.ok hk) (a1.ok hk) r (by rw [List.length_map]; lia) (fun y hy => ?_) (by rw [elo]; simpa using em), ?_⟩
          · (refine e12 (List.mem_map.mp hy) fun a ha q177_ => ?_; subst q177_)
            exact (h2' a ha).ok hk
          · refine ⟨fun _ => ⟨z, by simp, ?_⟩, fun _ => rfl⟩
            rw [ev]; exact em.symm
        · (refine e32 (ih td (by lia) h2' (by lia)) fun n b td' w hb => ?_)
          refine ⟨n + 1, b, td', .miss (hz.ok hk) (a1.ok hk) r (by rw [List.length_map]; lia) (by rw [elo]; simpa using em) w, hb.trans ?_⟩
          refine ⟨fun ⟨a, ha, o⟩ => ⟨a, List.mem_append_left _ ha, o⟩, fun ⟨a, ha, o⟩ => ?_⟩
          (refine Or.elim (List.mem_append.mp ha) (fun ha => ?_) (fun ha => ?_))
          · exact ⟨a, ha, o⟩
          · rw [List.mem_singleton.mp ha, ev] at o
            exact absurd (show m' = i from o).symm em
      · have ev : val ks θ z.2 = .num m' := by rw [← e, val_num hk q1 q2]
        (refine e32 (ih td (by lia) h2' (by lia)) fun n b td' w hb => ?_)
        refine ⟨n + 1, b, td', .port (hz.ok hk) r (by rw [List.length_map]; lia) w, hb.trans ?_⟩
        refine ⟨fun ⟨a, ha, o⟩ => ⟨a, List.mem_append_left _ ha, o⟩, fun ⟨a, ha, o⟩ => ?_⟩
        (refine Or.elim (List.mem_append.mp ha) (fun ha => ?_) (fun ha => ?_))
        · exact ⟨a, ha, o⟩
        · rw [List.mem_singleton.mp ha, ev] at o
          exact absurd o id
      · have ev : val ks θ z.2 = .pr (val ks θ p.2.1) (val ks θ p.2.2) := by rw [← e, val_pair hk hp]
        have f1 : sumF (fun z : Str × Nat => (val ks θ z.2).sz) (td ++ [(l, p.2.1), (r, p.2.2)]) ≤ N := by
          rw [sumF_app, sumF_two]; dsimp only; rw [ev, sz_pr] at h1; lia
        have f2 : sumF (fun z : Str × Nat => (val ks θ z.2).lv) (td ++ [(l, p.2.1), (r, p.2.2)]) ≤ 300 := by
          rw [sumF_app, sumF_two]; dsimp only; rw [ev, lv_pr] at h3; lia
        have f3 : ∀ z ∈ td ++ [(l, p.2.1), (r, p.2.2)], Nd ks z.1 z.2 := fun a ha => by
          (refine Or.elim (List.mem_append.mp ha) (fun ha => ?_) (fun ha => ?_))
          · exact h2' a ha
          · (refine Or.elim (List.mem_cons.mp ha) (fun o327_ => ?_) (fun ha => ?_); subst o327_)
            · exact hl
            · rw [List.mem_singleton.mp ha]; exact hr
        (refine e32 (ih _ f1 f3 f2) fun n b td' w hb => ?_)
        rw [List.map_append, List.map_cons, List.map_cons, List.map_nil] at w
        refine ⟨n + 1, b, td', .pair (hz.ok hk) (hl.ok hk) (hr.ok hk) rd (by rw [List.length_map]; lia) w, hb.trans ?_⟩
        refine ⟨fun ⟨a, ha, o⟩ => ?_, fun ⟨a, ha, o⟩ => ?_⟩
        · (refine Or.elim (List.mem_append.mp ha) (fun ha => ?_) (fun ha => ?_))
          · exact ⟨a, List.mem_append_left _ ha, o⟩
          · refine ⟨z, by simp, ?_⟩
            rw [ev]
            (refine Or.elim (List.mem_cons.mp ha) (fun o328_ => ?_) (fun ha => ?_); subst o328_)
            · exact .inl o
            · rw [List.mem_singleton.mp ha] at o; exact .inr o
        · (refine Or.elim (List.mem_append.mp ha) (fun ha => ?_) (fun ha => ?_))
          · exact ⟨a, List.mem_append_left _ ha, o⟩
          · rw [List.mem_singleton.mp ha, ev] at o
            (refine Or.elim o (fun o => ?_) (fun o => ?_))
            · exact ⟨(l, p.2.1), by simp, o⟩
            · exact ⟨(r, p.2.2), by simp, o⟩
theorem way_of (hk : KsOk ks) (S : St ks L θ qs) {i : Nat} : ∀ (N : Nat) (t : Str) (m : Nat), (val ks θ m).sz ≤ N → Nd ks t m → (val ks θ m).occ i → Way ks L i m := by
  intro N
  induction N with
  | zero => intro t m h; have := (val ks θ m).sz_pos; lia
  | succ N ih =>
    intro t m h hm o
    (refine e14 (find3_spec hk S hm) fun m' a1 a2 a3 a4 => ?_)
    have e := a3 θ S.sat
    rw [← e] at o h
    (refine Or.elim (a1.kind hk) (fun o329_ => ?_) (fun o330_ => ?_); rotate_left 1; (refine Or.elim o330_ (fun o97_ => ?_) (fun o98_ => ?_); rotate_left 1; try clear o330_; (refine e13 o98_ fun p hp q88_ q89_ => ?_; try clear o98_; subst q88_; obtain ⟨l, r, hl, hr, rd⟩ := q89_); rotate_right 1; try clear o330_; (refine e03 o97_ fun q1 q2 r => ?_; try clear o97_)); rotate_right 1; (refine e02 o329_ fun q r => ?_; try clear o329_))
    · rw [val_name hk q, S.free m' q a4] at o
      have : m' = i := o
      exact .here (by rw [← a2, this])
    · rw [val_num hk q1 q2] at o; exact absurd o id
    · rw [val_pair hk hp] at o h
      rw [sz_pr] at h
      (refine Or.elim o (fun o => ?_) (fun o => ?_))
      · exact .left hp a2 (ih l _ (by lia) hl o)
      · exact .right hp a2 (ih r _ (by lia) hr o)
theorem St.bind (hk : KsOk ks) (S : St ks L θ qs) {x y : Str} {i m : Nat} (hx : Nd ks x i) (hi : i < 3) (hun : ∀ q ∈ qs, q.i ≠ i) (hy : Nd ks y m) (hmun : ∀ q ∈ qs, q.i ≠ m) (hL : L i = L m) (hno : ¬ (val ks θ m).occ i) :
    St ks L (fun k => Tree.sub i (val ks θ m) (θ k)) (qs ++ [⟨x, i, y, m⟩]) := by
  refine ⟨fun q hq => ?_, ?_, ?_, fun q hq => ?_, fun k hk3 hfree => ?_⟩
  · (refine Or.elim (List.mem_append.mp hq) (fun hq => ?_) (fun hq => ?_))
    · have := S.ok q hq
      refine ⟨this.1, this.2.1, this.2.2.1, this.2.2.2.1, ?_⟩
      rw [val_sub, this.2.2.2.2]
    · rw [List.mem_singleton.mp hq]
      refine ⟨hi, hx, hy, hL, ?_⟩
      rw [val_sub, Tree.sub_id _ hno]
      show Tree.sub i _ (θ i) = _
      rw [S.free i hi hun]
      show (if i = i then _ else _) = _
      rw [if_pos rfl]
  · rw [List.pairwise_append]
    exact ⟨S.nd, List.pairwise_singleton _ _, fun a ha b hb => by rw [List.mem_singleton.mp hb]; exact hun a ha⟩
  · rw [List.pairwise_append]
    exact ⟨S.tri, List.pairwise_singleton _ _, fun a ha b hb => by rw [List.mem_singleton.mp hb]; exact (hmun a ha).symm⟩
  · (refine Or.elim (List.mem_append.mp hq) (fun hq => ?_) (fun hq => ?_))
    · exact S.self q hq
    · rw [List.mem_singleton.mp hq]
      intro e
      have e' : m = i := e
      rw [e', val_name hk hi, S.free i hi hun] at hno
      exact hno rfl
  · have h1 : k ≠ i := fun e => hfree ⟨x, i, y, m⟩ (by simp) e.symm
    show Tree.sub i _ (θ k) = _
    rw [S.free k hk3 fun q hq => hfree q (List.mem_append_left _ hq)]
    show (if k = i then _ else _) = _
    rw [if_neg h1]
theorem hdel_free (hk : KsOk ks) (S : St ks L θ qs) {x : Str} {i : Nat} (hx : Nd ks x i) (hi : i < 3) (hun : ∀ q ∈ qs, q.i ≠ i) : hdel (qs.map Bd.p) x = qs.map Bd.p := by
  unfold hdel
  rw [List.filter_eq_self]
  intro p hp
  (refine e12 (List.mem_map.mp hp) fun q hq q178_ => ?_; subst q178_)
  have := S.ok q hq
  show (Txt.lower q.x != Txt.lower x) = true
  rw [(this.2.1.name hk this.1).2.1, (hx.name hk hi).2.1, bne, sing_lt]
  have := hun q hq
  simp; lia
end Mine
end

section
open PySem PySem.W PyProof.Rows PySem.Calls PyProof.Rows.LCg
set_option Elab.async false
set_option linter.all false
set_option maxRecDepth 100000
set_option maxHeartbeats 2000000
namespace Mine
variable {ks : KT} {θ : Nat → Tree} {L : Nat → Int} {qs : List Bd} {lab : List Int}
theorem name_ne (hk : KsOk ks) {x y : Str} {i m : Nat} (hx : Nd ks x i) (hi : i < 3) (hy : Nd ks y m) (hm : m < 3) : (Txt.lower x == Txt.lower y) = (i == m) := by
  rw [(hx.name hk hi).2.1, (hy.name hk hm).2.1, sing_lt, Bool.eq_iff_iff, beq_iff_eq, beq_iff_eq]; lia
theorem bind_ex (hk : KsOk ks) (S : St ks L θ qs) (hlab : ∀ n, n < 9 → L n ∈ lab) {x y : Str} {i m : Nat} {ky : Kd} (hx : Nd ks x i) (hi : i < 3) (hun : ∀ q ∈ qs, q.i ≠ i) (hy : Nd ks y m) (hmun : ∀ q ∈ qs, q.i ≠ m) (hL : L i = L m) (hm : m ≠ i)
    (hky : ky.isName = true → m < 3) :
    ((∀ u, Act0 (qs.map Bd.p) x y (.name u) ky (.stop (Str.ofString "ring"))) ∧ RingDue ks L lab) ∨
    ((∀ u, Act0 (qs.map Bd.p) x y (.name u) ky (.next ((qs ++ [Bd.mk x i y m]).map Bd.p) [])) ∧ St ks L (fun k => Tree.sub i (val ks θ m) (θ k)) (qs ++ [Bd.mk x i y m])) := by
  have hlv : (val ks θ m).lv ≤ 16 := by
    have h1 := S.ht9 hk hy
    have h2 := S.few
    have h3 := (val ks θ m).lv_le
    have h4 : (val ks θ m).ht ≤ 4 := by split at h1 <;> lia
    have h5 : 2 ^ (val ks θ m).ht ≤ 2 ^ 4 := Nat.pow_le_pow_right (by decide) h4
    lia
  (refine e32 (wit_ex hk S hx hi (val ks θ m).sz [(y, m)] (by rw [sumF_one]; exact Nat.le_refl _) (fun z hz => by rw [List.mem_singleton.mp hz]; exact hy) (by rw [sumF_one]; dsimp only; lia)) fun n b td' w hb => ?_)
  have hne : ky.isName = true → (Txt.lower x == Txt.lower y) = false := fun q => by
    rw [name_ne hk hx hi hy (hky q)]; simpa using hm.symm
  cases b with
  | true =>
    refine .inl ⟨fun u => .ring hne w, ?_⟩
    (refine e12 (hb.mp rfl) fun z hz o => ?_)
    rw [List.mem_singleton.mp hz] at o
    dsimp only at o
    (refine Or.elim (hy.kind hk) (fun o331_ => ?_) (fun o332_ => ?_); rotate_left 1; (refine Or.elim o332_ (fun o99_ => ?_) (fun o100_ => ?_); rotate_left 1; try clear o332_; (refine e13 o100_ fun p hp q90_ q91_ => ?_; try clear o100_; subst q90_; obtain ⟨l, r, hl, hr, rd⟩ := q91_); rotate_right 1; try clear o332_; (refine e03 o99_ fun q1 q2 r => ?_; try clear o99_)); rotate_right 1; (refine e02 o331_ fun q r => ?_; try clear o331_))
    · rw [val_name hk q, S.free m q hmun] at o
      exact absurd o hm
    · rw [val_num hk q1 q2] at o; exact absurd o id
    · rw [val_pair hk hp] at o
      refine ring_of hlab (by lia) hp hL.symm ?_
      (refine Or.elim o (fun o => ?_) (fun o => ?_))
      · exact .inl (way_of hk S _ _ _ (Nat.le_refl _) hl o)
      · exact .inr (way_of hk S _ _ _ (Nat.le_refl _) hr o)
  | false =>
    have hno : ¬ (val ks θ m).occ i := fun o => by
      have := hb.mpr ⟨(y, m), by simp, o⟩; exact ft this
    have S' := S.bind hk hx hi hun hy hmun hL hno
    refine .inr ⟨fun u => ?_, S'⟩
    have e : (qs ++ [Bd.mk x i y m]).map Bd.p = hdel (qs.map Bd.p) x ++ [(x, y)] := by
      rw [hdel_free hk S hx hi hun, List.map_append]; rfl
    rw [e]
    refine .bind hne w ?_
    rw [← e]; exact S'.hok hk
structure It where
  a : Str
  b : Str
  n : Nat
  m : Nat
noncomputable def It.p (z : It) : Str × Str := (z.a, z.b)
noncomputable def cB : Nat → Nat
  | 0 => 4
  | 1 => 10
  | 2 => 44
  | _ => 360
noncomputable def Res (ks : KT) (L : Nat → Int) (lab : List Int) (n0 n1 n2 n3 : Nat) (en : Str) (ps' : List (Str × Str)) : Prop :=
  (en = Str.ofString "clash" ∧ ClashDue ks L) ∨ (en = Str.ofString "ring" ∧ RingDue ks L lab) ∨
  (en = Str.ofString "one" ∧ ∃ θ qs, ps' = qs.map Bd.p ∧ St ks L θ qs ∧ val ks θ n0 = val ks θ n2 ∧ val ks θ n1 = val ks θ n3)
theorem lv_all (hk : KsOk ks) (S : St ks L θ qs) : ∀ td : List It, (∀ z ∈ td, Nd ks z.a z.n) → sumF (fun z => (val ks θ z.n).lv) td ≤ 2 ^ qs.length * (td.length + td.countP (fun z => decide (5 ≤ z.n)))
  | [], _ => Nat.zero_le _
  | z :: td, h => by
    have ih := lv_all hk S td fun a ha => h a (.tail _ ha)
    have h1 := S.ht9 hk (h z (.head _))
    have h2 := (val ks θ z.n).lv_le
    simp only [sumF, List.map_cons, List.sum_cons, List.length_cons, List.countP_cons] at *
    rw [Nat.mul_add] at ih ⊢
    rw [Nat.mul_add, Nat.mul_add]
    by_cases q : z.n < 5
    · rw [if_pos q] at h1
      have h3 : 2 ^ (val ks θ z.n).ht ≤ 2 ^ qs.length := Nat.pow_le_pow_right (by decide) h1
      rw [if_neg (by simp; lia)]
      lia
    · rw [if_neg q] at h1
      have h3 : 2 ^ (val ks θ z.n).ht ≤ 2 ^ (qs.length + 1) := Nat.pow_le_pow_right (by decide) h1
      rw [Nat.pow_succ] at h3
      rw [if_pos (by simp; lia)]
      lia
theorem sol_ex (hk : KsOk ks) (hcl : ∀ p ∈ ks, ∀ q ∈ ks, L p.1 = L q.1 → L p.2.1 = L q.2.1 ∧ L p.2.2 = L q.2.2) (hlab : ∀ n, n < 9 → L n ∈ lab) {n0 n1 n2 n3 : Nat} : ∀ (U N : Nat) (θ : Nat → Tree) (qs : List Bd) (td : List It), 3 - qs.length ≤ U → sumF (fun z => (val ks θ z.n).sz) td ≤ N → St ks L θ qs →
    (∀ z ∈ td, Nd ks z.a z.n ∧ Nd ks z.b z.m ∧ L z.n = L z.m) → sumF (fun z => (val ks θ z.n).lv) td ≤ cB qs.length → td.countP (fun z => decide (5 ≤ z.n)) ≤ 2 →
    (∀ θ', (∀ q ∈ qs, q.i < 3 ∧ θ' q.i = val ks θ' q.m) → (∀ z ∈ td, val ks θ' z.n = val ks θ' z.m) → val ks θ' n0 = val ks θ' n2 ∧ val ks θ' n1 = val ks θ' n3) →
    ∃ n en ps' td', Sol (qs.map Bd.p) n (td.map It.p) en ps' td' ∧ Res ks L lab n0 n1 n2 n3 en ps' := by
  intro U
  induction U using Nat.strongRecOn with
  | ind U ihU =>
  intro N
  induction N with
  | zero =>
    intro θ qs td _ h1 S _ _ _ hE
    match td, h1 with
    | [], _ => exact ⟨0, _, _, [], .nil, .inr (.inr ⟨rfl, θ, qs, rfl, S, hE θ S.sat fun z hz => by cases hz⟩)⟩
    | z :: td, h1 =>
      simp only [sumF, List.map_cons, List.sum_cons] at h1
      have := (val ks θ z.n).sz_pos; lia
  | succ N ih =>
    intro θ qs td hU h1 S h2 h3 h4 hE
    (refine Or.elim (List.eq_nil_or_concat td) (fun o333_ => ?_) (fun o334_ => ?_); rotate_left 1; (refine e21 o334_ fun td z q49_ => ?_; try clear o334_; subst q49_); rotate_right 1; subst o333_)
    · exact ⟨0, _, _, [], .nil, .inr (.inr ⟨rfl, θ, qs, rfl, S, hE θ S.sat fun z hz => by cases hz⟩)⟩
    rw [List.concat_eq_append] at h1 h2 h3 h4 hE ⊢
    rw [sumF_app, sumF_one] at h1 h3
    rw [List.countP_append] at h4
    have hz := h2 z (by simp)
    have h2' : ∀ z ∈ td, Nd ks z.a z.n ∧ Nd ks z.b z.m ∧ L z.n = L z.m := fun a ha => h2 a (List.mem_append_left _ ha)
    have hlen := sumF_len (fun z : It => (val ks θ z.n).lv) td fun a _ => Tree.lv_pos _
    have hsz := (val ks θ z.n).sz_pos
    have hlv := (val ks θ z.n).lv_pos
    have hfew := S.few
    have hcB : cB qs.length ≤ 360 := by
      have : qs.length = 0 ∨ qs.length = 1 ∨ qs.length = 2 ∨ qs.length = 3 := by lia
      (refine Or.elim this (fun q => ?_) (fun o335_ => ?_); rotate_left 1; try clear this; (refine Or.elim o335_ (fun q => ?_) (fun o101_ => ?_); rotate_left 1; try clear o335_; (refine Or.elim o101_ (fun q => ?_) (fun q => ?_); rotate_left 1; try clear o101_; rotate_right 1; try clear o101_); rotate_right 1; try clear o335_); rotate_right 1; try clear this) <;> rw [q] <;> decide
    (refine e14 (find3_spec hk S hz.1) fun m1 a1 a2 a3 a4 => ?_)
    (refine e14 (find3_spec hk S hz.2.1) fun m2 b1 b2 b3 b4 => ?_)
    have e1 := a3 θ S.sat
    have e2 := b3 θ S.sat
    have eL : L m1 = L m2 := by rw [a2, b2]; exact hz.2.2
    have hok : ∀ p ∈ td.map It.p ++ [(z.a, z.b)], OkT p.1 ∧ OkT p.2 := fun p hp => by
      (refine Or.elim (List.mem_append.mp hp) (fun hp => ?_) (fun hp => ?_))
      · (refine e12 (List.mem_map.mp hp) fun w hw q179_ => ?_; subst q179_)
        exact ⟨(h2' w hw).1.ok hk, (h2' w hw).2.1.ok hk⟩
      · rw [List.mem_singleton.mp hp]; exact ⟨hz.1.ok hk, hz.2.1.ok hk⟩
    have hl5 : (td.map It.p).length + 2 ≤ 500 := by rw [List.length_map]; lia
    have emap : (td ++ [z]).map It.p = td.map It.p ++ [(z.a, z.b)] := by rw [List.map_append]; rfl
    rw [emap]
    have stop : ∀ (kx ky : Kd) (en : Str), Rd (find3 (qs.map Bd.p) z.a) kx → Rd (find3 (qs.map Bd.p) z.b) ky → Act (qs.map Bd.p) (find3 (qs.map Bd.p) z.a) (find3 (qs.map Bd.p) z.b) kx ky (.stop en) → ((en = Str.ofString "clash" ∧ ClashDue ks L) ∨ (en = Str.ofString "ring" ∧ RingDue ks L lab)) →
        ∃ n en ps' td', Sol (qs.map Bd.p) n (td.map It.p ++ [(z.a, z.b)]) en ps' td' ∧ Res ks L lab n0 n1 n2 n3 en ps' := fun kx ky en r1 r2 hA hd => by
      refine ⟨1, en, _, _, .stop (S.hok hk) hok hl5 r1 r2 hA, ?_⟩
      (refine Or.elim hd (fun hd => ?_) (fun hd => ?_))
      · exact .inl hd
      · exact .inr (.inl hd)
    have goN : ∀ (kx ky : Kd) (add : List It), Rd (find3 (qs.map Bd.p) z.a) kx → Rd (find3 (qs.map Bd.p) z.b) ky → Act (qs.map Bd.p) (find3 (qs.map Bd.p) z.a) (find3 (qs.map Bd.p) z.b) kx ky (.next (qs.map Bd.p) (add.map It.p)) →
        (∀ w ∈ add, Nd ks w.a w.n ∧ Nd ks w.b w.m ∧ L w.n = L w.m) → sumF (fun z => (val ks θ z.n).sz) add < (val ks θ z.n).sz → sumF (fun z => (val ks θ z.n).lv) add ≤ (val ks θ z.n).lv → (∀ w ∈ add, w.n < 5) →
        (∀ θ', (∀ q ∈ qs, q.i < 3 ∧ θ' q.i = val ks θ' q.m) → (∀ w ∈ add, val ks θ' w.n = val ks θ' w.m) → val ks θ' m1 = val ks θ' m2) →
        ∃ n en ps' td', Sol (qs.map Bd.p) n (td.map It.p ++ [(z.a, z.b)]) en ps' td' ∧ Res ks L lab n0 n1 n2 n3 en ps' := fun kx ky add r1 r2 hA k1 k2 k3 k4 k5 => by
      have c0 : add.countP (fun z => decide (5 ≤ z.n)) = 0 := by
        rw [List.countP_eq_zero]; intro w hw; have := k4 w hw; simp; lia
      (refine e42 (ih θ qs (td ++ add) hU (by rw [sumF_app]; lia) S (fun w hw => by
        (refine Or.elim (List.mem_append.mp hw) (fun hw => ?_) (fun hw => ?_))
        · exact h2' w hw
        · exact k1 w hw) (by rw [sumF_app]; lia) (by rw [List.countP_append]; lia) (fun θ' hs he => hE θ' hs fun w hw => by
          (refine Or.elim (List.mem_append.mp hw) (fun hw => ?_) (fun hw => ?_))
          · exact he w (List.mem_append_left _ hw)
          · rw [List.mem_singleton.mp hw, ← a3 θ' hs, ← b3 θ' hs]
            exact k5 θ' hs fun w hw => he w (List.mem_append_right _ hw))) fun n en ps' td' hS hR => ?_)
      rw [List.map_append] at hS
      exact ⟨n + 1, en, ps', td', .go (S.hok hk) hok hl5 r1 r2 hA hS, hR⟩
    have goB : ∀ (kx ky : Kd) (x y : Str) (i m : Nat) (θ1 : Nat → Tree), Rd (find3 (qs.map Bd.p) z.a) kx → Rd (find3 (qs.map Bd.p) z.b) ky → Act (qs.map Bd.p) (find3 (qs.map Bd.p) z.a) (find3 (qs.map Bd.p) z.b) kx ky (.next ((qs ++ [Bd.mk x i y m]).map Bd.p) []) →
        St ks L θ1 (qs ++ [Bd.mk x i y m]) → (∀ θ' : Nat → Tree, θ' i = val ks θ' m → val ks θ' m1 = val ks θ' m2) →
        ∃ n en ps' td', Sol (qs.map Bd.p) n (td.map It.p ++ [(z.a, z.b)]) en ps' td' ∧ Res ks L lab n0 n1 n2 n3 en ps' := fun kx ky x y i m θ1 r1 r2 hA S' k5 => by
      have hl' : (qs ++ [(Bd.mk x i y m : Bd)]).length = qs.length + 1 := by simp
      have hf' := S'.few
      rw [hl'] at hf'
      have hlv' := lv_all hk S' td fun w hw => (h2' w hw).1
      rw [hl'] at hlv'
      have hcB' : 2 ^ (qs.length + 1) * (td.length + td.countP (fun z => decide (5 ≤ z.n))) ≤ cB (qs.length + 1) := by
        have hx : td.length + td.countP (fun z => decide (5 ≤ z.n)) ≤ cB qs.length + 1 := by lia
        refine Nat.le_trans (Nat.mul_le_mul_left _ hx) ?_
        have : qs.length = 0 ∨ qs.length = 1 ∨ qs.length = 2 := by lia
        (refine Or.elim this (fun q => ?_) (fun o336_ => ?_); rotate_left 1; try clear this; (refine Or.elim o336_ (fun q => ?_) (fun q => ?_); rotate_left 1; try clear o336_; rotate_right 1; try clear o336_); rotate_right 1; try clear this) <;> rw [q] <;> decide
      (refine e42 (ihU (3 - (qs.length + 1)) (by lia) (sumF (fun z => (val ks θ1 z.n).sz) td) θ1 _ td (by rw [hl']; exact Nat.le_refl _) (Nat.le_refl _) S' h2' (by rw [hl']; lia) (by lia) (fun θ' hs he => by
        have hs0 : ∀ q ∈ qs, q.i < 3 ∧ θ' q.i = val ks θ' q.m := fun q hq => hs q (List.mem_append_left _ hq)
        refine hE θ' hs0 fun w hw => ?_
        (refine Or.elim (List.mem_append.mp hw) (fun hw => ?_) (fun hw => ?_))
        · exact he w hw
        · rw [List.mem_singleton.mp hw, ← a3 θ' hs0, ← b3 θ' hs0]
          exact k5 θ' (hs (Bd.mk x i y m) (by simp)).2)) fun n en ps' td' hS hR => ?_)
      refine ⟨n + 1, en, ps', td', .go (S.hok hk) hok hl5 r1 r2 hA ?_, hR⟩
      rw [List.append_nil]; exact hS
    (refine Or.elim (a1.kind hk) (fun o337_ => ?_) (fun o338_ => ?_); rotate_left 1; (refine Or.elim o338_ (fun o102_ => ?_) (fun o103_ => ?_); rotate_left 1; try clear o338_; (refine e13 o103_ fun p hp q92_ q93_ => ?_; try clear o103_; subst q92_; obtain ⟨l, rr, hl, hr, rd⟩ := q93_); rotate_right 1; try clear o338_; (refine e03 o102_ fun q1 q2 r => ?_; try clear o102_)); rotate_right 1; (refine e02 o337_ fun q r => ?_; try clear o337_))
    · by_cases em : m2 = m1
      · subst em
        refine goN _ _ [] r (b1.name hk q).2.2 (.as (.inl rfl) (.same ?_)) (fun w hw => by cases hw) (by simp [sumF]; lia) (by simp [sumF]) (fun w hw => by cases hw) fun _ _ _ => rfl
        rw [name_ne hk a1 q b1 q]; simp
      · have fin : ∀ ky, Rd (find3 (qs.map Bd.p) z.b) ky → (ky.isName = true → m2 < 3) → ∃ n en ps' td', Sol (qs.map Bd.p) n (td.map It.p ++ [(z.a, z.b)]) en ps' td' ∧ Res ks L lab n0 n1 n2 n3 en ps' := fun ky r2 hky => by
          (refine Or.elim (bind_ex hk S hlab (ky := ky) a1 q a4 b1 b4 eL em hky) (fun o339_ => ?_) (fun o340_ => ?_); rotate_left 1; (refine e02 o340_ fun hA S' => ?_; try clear o340_); rotate_right 1; (refine e02 o339_ fun hA hd => ?_; try clear o339_))
          · exact stop _ _ _ r r2 (.as (.inl rfl) (hA _)) (.inr ⟨rfl, hd⟩)
          · exact goB _ _ _ _ _ _ _ r r2 (.as (.inl rfl) (hA _)) S' fun θ' e => by rw [val_name hk q]; exact e
        (refine Or.elim (b1.kind hk) (fun o341_ => ?_) (fun o342_ => ?_); rotate_left 1; (refine Or.elim o342_ (fun o104_ => ?_) (fun o105_ => ?_); rotate_left 1; try clear o342_; (refine e13 o105_ fun p hp q94_ q95_ => ?_; try clear o105_; subst q94_; obtain ⟨l, rr, hl, hr, r2⟩ := q95_); rotate_right 1; try clear o342_; (refine e03 o104_ fun w1 w2 r2 => ?_; try clear o104_)); rotate_right 1; (refine e02 o341_ fun w r2 => ?_; try clear o341_))
        · exact fin _ r2 fun _ => w
        · exact fin _ r2 fun h => by exact ft h
        · exact fin _ r2 fun h => by exact ft h
    · (refine Or.elim (b1.kind hk) (fun o343_ => ?_) (fun o344_ => ?_); rotate_left 1; (refine Or.elim o344_ (fun o106_ => ?_) (fun o107_ => ?_); rotate_left 1; try clear o344_; (refine e13 o107_ fun p' hp' q96_ q97_ => ?_; try clear o107_; subst q96_; obtain ⟨l', rr', hl', hr', r2⟩ := q97_); rotate_right 1; try clear o344_; (refine e03 o106_ fun w1 w2 r2 => ?_; try clear o106_)); rotate_right 1; (refine e02 o343_ fun w r2 => ?_; try clear o343_))
      · (refine Or.elim (bind_ex hk S hlab (ky := .port (7 * m1)) b1 w b4 a1 a4 eL.symm (by lia) (fun h => by exact ft h)) (fun o345_ => ?_) (fun o346_ => ?_); rotate_left 1; (refine e02 o346_ fun hA S' => ?_; try clear o346_); rotate_right 1; (refine e02 o345_ fun hA hd => ?_; try clear o345_))
        · exact stop _ _ _ r r2 (.swap rfl rfl (hA _)) (.inr ⟨rfl, hd⟩)
        · exact goB _ _ _ _ _ _ _ r r2 (.swap rfl rfl (hA _)) S' fun θ' e => by rw [val_name hk w]; exact e.symm
      · by_cases em : m1 = m2
        · subst em
          exact goN _ _ [] r r2 (.as (.inr rfl) .ports) (fun w hw => by cases hw) (by simp [sumF]; lia) (by simp [sumF]) (fun w hw => by cases hw) fun _ _ _ => rfl
        · refine stop _ _ _ r r2 (.as (.inr rfl) (.clash rfl rfl (by (intro q61_; (refine e42 q61_ fun _ _ _ _ h _ => ?_; try clear q61_)); cases h) (fun h => by injection h with h; lia) (fun _ _ h => by cases h) (fun _ _ h => by cases h))) (.inl ⟨rfl, .inl ?_⟩)
          have : (m1 = 3 ∧ m2 = 4) ∨ (m1 = 4 ∧ m2 = 3) := by lia
          (refine Or.elim this (fun o347_ => ?_) (fun o348_ => ?_); rotate_left 1; try clear this; (refine e02 o348_ fun z1 z2 => ?_; try clear o348_); rotate_right 1; try clear this; (refine e02 o347_ fun z1 z2 => ?_; try clear o347_)) <;> rw [z1, z2] at eL
          · exact eL
          · exact eL.symm
      · refine stop _ _ _ r r2 (.as (.inr rfl) (.clash rfl rfl (by (intro q62_; (refine e42 q62_ fun _ _ _ _ h _ => ?_; try clear q62_)); cases h) (fun h => by cases h) (fun _ _ h => by cases h) (fun _ _ h => by injection h with h1 h2; subst h1 h2; exact ⟨hl'.ok hk, hr'.ok hk⟩))) (.inl ⟨rfl, .inr ⟨p', hp', ?_⟩⟩)
        have : m1 = 3 ∨ m1 = 4 := by lia
        (refine Or.elim this (fun z1 => ?_) (fun z1 => ?_); rotate_left 1; try clear this; rotate_right 1; try clear this) <;> rw [z1] at eL
        · exact .inl eL.symm
        · exact .inr eL.symm
    · (refine Or.elim (b1.kind hk) (fun o349_ => ?_) (fun o350_ => ?_); rotate_left 1; (refine Or.elim o350_ (fun o108_ => ?_) (fun o109_ => ?_); rotate_left 1; try clear o350_; (refine e13 o109_ fun p' hp' q98_ q99_ => ?_; try clear o109_; subst q98_; obtain ⟨l', rr', hl', hr', r2⟩ := q99_); rotate_right 1; try clear o350_; (refine e03 o108_ fun w1 w2 r2 => ?_; try clear o108_)); rotate_right 1; (refine e02 o349_ fun w r2 => ?_; try clear o349_))
      · (refine Or.elim (bind_ex hk S hlab (ky := .pair l rr) b1 w b4 a1 a4 eL.symm (by have := hk.key p hp; lia) (fun h => by exact ft h)) (fun o351_ => ?_) (fun o352_ => ?_); rotate_left 1; (refine e02 o352_ fun hA S' => ?_; try clear o352_); rotate_right 1; (refine e02 o351_ fun hA hd => ?_; try clear o351_))
        · exact stop _ _ _ rd r2 (.swap rfl rfl (hA _)) (.inr ⟨rfl, hd⟩)
        · exact goB _ _ _ _ _ _ _ rd r2 (.swap rfl rfl (hA _)) S' fun θ' e => by rw [val_name hk w]; exact e.symm
      · refine stop _ _ _ rd r2 (.as (.inr rfl) (.clash rfl rfl (by (intro q63_; (refine e42 q63_ fun _ _ _ _ _ h => ?_; try clear q63_)); cases h) (fun h => by cases h) (fun _ _ h => by injection h with h1 h2; subst h1 h2; exact ⟨hl.ok hk, hr.ok hk⟩) (fun _ _ h => by cases h))) (.inl ⟨rfl, .inr ⟨p, hp, ?_⟩⟩)
        have : m2 = 3 ∨ m2 = 4 := by lia
        (refine Or.elim this (fun z1 => ?_) (fun z1 => ?_); rotate_left 1; try clear this; rotate_right 1; try clear this) <;> rw [z1] at eL
        · exact .inl eL
        · exact .inr eL
      · have hkp := hk.key p hp
        have ev : val ks θ z.n = .pr (val ks θ p.2.1) (val ks θ p.2.2) := by rw [← e1, val_pair hk hp]
        have hkp' := hk.key p' hp'
        (refine e02 (hcl p hp p' hp' eL) fun c1 c2 => ?_)
        refine goN _ _ [It.mk l l' p.2.1 p'.2.1, It.mk rr rr' p.2.2 p'.2.2] rd r2 (.as (.inr rfl) (.pairs (hl.ok hk) (hr.ok hk) (hl'.ok hk) (hr'.ok hk))) (fun w hw => ?_) ?_ ?_ (fun w hw => ?_) fun θ' hs he => ?_
        · (refine Or.elim (List.mem_cons.mp hw) (fun o353_ => ?_) (fun hw => ?_); subst o353_)
          · exact ⟨hl, hl', c1⟩
          · rw [List.mem_singleton.mp hw]; exact ⟨hr, hr', c2⟩
        · rw [sumF_two, ev, sz_pr]; dsimp only; lia
        · rw [sumF_two, ev, lv_pr]; exact Nat.le_refl _
        · (refine Or.elim (List.mem_cons.mp hw) (fun o354_ => ?_) (fun hw => ?_); subst o354_)
          · exact hkp.2.2.1
          · rw [List.mem_singleton.mp hw]; exact hkp.2.2.2
        · have h1 := he _ (.head _)
          have h2 := he _ (.tail _ (.head _))
          dsimp only at h1 h2
          rw [val_pair hk hp, val_pair hk hp', h1, h2]
end Mine
end

section
open PySem PySem.W PyProof.Rows PySem.Calls PyProof.Rows.LCg
set_option Elab.async false
set_option linter.all false
set_option maxRecDepth 100000
set_option maxHeartbeats 2000000
namespace Mine
variable {ks : KT} {θ : Nat → Tree} {L : Nat → Int} {qs : List Bd} {lab : List Int}
theorem Due.cong {n k k' : Nat} {s : Str} (h : Due lab ks n k s) (e : lab[k']? = lab[k]?) : Due lab ks n k' s := by
  cases h with
  | pair h1 h2 h3 h4 d1 d2 => exact .pair (e.trans h1) h2 h3 h4 d1 d2
  | num1 h1 h2 h3 => exact .num1 (e.trans h1) h2 h3
  | num2 h1 h2 h3 h4 h5 => exact .num2 (e.trans h1) h2 h3 h4 h5
  | name h1 h2 h3 h4 h5 h6 h7 h8 h9 => exact .name (e.trans h1) h2 h3 h4 h5 h6 h7 h8 h9
theorem labL_idx {L : Nat → Int} {i : Nat} (hi : i < 9) : (labL L).idxOf (L i) ≤ i ∧ L ((labL L).idxOf (L i)) = L i ∧ ∀ j, j < (labL L).idxOf (L i) → L j ≠ L i := by
  have hm : L i ∈ labL L := List.mem_map.mpr ⟨i, List.mem_range.mpr hi, rfl⟩
  have hlen : (labL L).length = 9 := by simp [labL]
  have h1 := List.idxOf_lt_length_of_mem hm
  have hj : ∀ j, j < (labL L).idxOf (L i) → L j ≠ L i := fun j hj e => by
    have := List.not_of_lt_findIdx (p := (· == L i)) (xs := labL L) (i := j) hj
    simp [labL] at this
    exact this e
  refine ⟨?_, ?_, hj⟩
  · (refine Or.elim (Nat.lt_or_ge i ((labL L).idxOf (L i))) (fun z => ?_) (fun z => ?_))
    · exact absurd rfl (hj i z)
    · exact z
  · have := List.getElem_idxOf h1
    have h2 := labL_get L (k := (labL L).idxOf (L i)) (by lia)
    rw [List.getElem?_eq_getElem h1, this] at h2
    exact (Option.some.inj h2).symm
theorem pairsOf_nil (hk : KsOk ks) {v : Int} (h : ∀ p ∈ ks, L p.1 ≠ v) : pairsOf' (labL L) ks v = [] := by
  unfold pairsOf'
  rw [List.map_eq_nil_iff, List.filter_eq_nil_iff]
  intro p hp
  rw [labL_get L (hk.key p hp).2.1]
  simpa using h p hp
theorem pairsOf_cons (hk : KsOk ks) {v : Int} {p : Nat × (Nat × Nat)} (hp : p ∈ ks) (h : L p.1 = v) : ∃ q rest, q ∈ ks ∧ L q.1 = v ∧ pairsOf' (labL L) ks v = q.1 :: rest := by
  have hm : p ∈ ks.filter fun p => (labL L)[p.1]? == some v := (mem_inCls hk).mpr ⟨hp, h⟩
  unfold pairsOf'
  cases e : ks.filter fun p => (labL L)[p.1]? == some v with
  | nil => rw [e] at hm; cases hm
  | cons q rest =>
    have : q ∈ inCls ks (labL L) v := by unfold inCls; rw [e]; exact .head _
    (refine e02 ((mem_inCls hk).mp this) fun h1 h2 => ?_)
    exact ⟨q, _, h1, h2, rfl⟩
theorem pl_one {k : Nat} (h : k < 3) : (strL [120 + k]).cps.all plainCh = true := by
  match k, h with
  | 0, _ => decide +kernel
  | 1, _ => decide +kernel
  | 2, _ => decide +kernel
theorem pl_app {a b : Str} (ha : a.cps.all plainCh = true) (hb : b.cps.all plainCh = true) : (a ++ b).cps.all plainCh = true := by
  show (a.cps ++ b.cps).all plainCh = true
  rw [Array.all_append, ha, hb]; rfl
theorem told_due (hk : KsOk ks) (S : St ks L θ qs) {ps2 : List (Str × Str)} (hf : ∀ t m, Nd ks t m → find3 ps2 t = find3 (qs.map Bd.p) t) (hcl : ∀ p ∈ ks, ∀ q ∈ ks, L p.1 = L q.1 → L p.2.1 = L q.2.1 ∧ L p.2.2 = L q.2.2) (hv : ∀ a b, a < 9 → b < 9 → L a = L b → val ks θ a = val ks θ b) :
    ∀ (n : Nat) (t : Str) (m : Nat), (val ks θ m).ht ≤ n → Nd ks t m → ∃ s, s.cps.all plainCh = true ∧ s.length + 2 ≤ 5 * (val ks θ m).lv ∧ Told ps2 (labL L) n t s ∧ Due (labL L) ks n m s ∧ ((s.length ≠ 1 ∧ ∀ i, val ks θ m ≠ .nm i) ∨ ∃ i, i < 3 ∧ (∀ q ∈ qs, q.i ≠ i) ∧ val ks θ m = .nm i ∧ L i = L m ∧ s = strL [120 + (labL L).idxOf (L m)]) := by
  intro n
  have step : ∀ n, (∀ n', n = n' + 1 → ∀ (t : Str) (m : Nat), (val ks θ m).ht ≤ n' → Nd ks t m → ∃ s, s.cps.all plainCh = true ∧ s.length + 2 ≤ 5 * (val ks θ m).lv ∧ Told ps2 (labL L) n' t s ∧ Due (labL L) ks n' m s ∧ ((s.length ≠ 1 ∧ ∀ i, val ks θ m ≠ .nm i) ∨ ∃ i, i < 3 ∧ (∀ q ∈ qs, q.i ≠ i) ∧ val ks θ m = .nm i ∧ L i = L m ∧ s = strL [120 + (labL L).idxOf (L m)])) →
      ∀ (t : Str) (m : Nat), (val ks θ m).ht ≤ n → Nd ks t m → ∃ s, s.cps.all plainCh = true ∧ s.length + 2 ≤ 5 * (val ks θ m).lv ∧ Told ps2 (labL L) n t s ∧ Due (labL L) ks n m s ∧ ((s.length ≠ 1 ∧ ∀ i, val ks θ m ≠ .nm i) ∨ ∃ i, i < 3 ∧ (∀ q ∈ qs, q.i ≠ i) ∧ val ks θ m = .nm i ∧ L i = L m ∧ s = strL [120 + (labL L).idxOf (L m)]) := by
    intro n ih t m hh ht
    (refine e14 (find3_spec hk S ht) fun m' a1 a2 a3 a4 => ?_)
    rw [← hf t m ht] at a1
    have e := a3 θ S.sat
    have hm9 := ht.lt hk
    have hm9' := a1.lt hk
    have hg := labL_get L hm9
    have hl9 : 3 ≤ (labL L).length := by simp [labL]
    rw [← e] at hh ⊢
    (refine Or.elim (a1.kind hk) (fun o355_ => ?_) (fun o356_ => ?_); rotate_left 1; (refine Or.elim o356_ (fun o110_ => ?_) (fun o111_ => ?_); rotate_left 1; try clear o356_; (refine e13 o111_ fun p hp q100_ q101_ => ?_; try clear o111_; subst q100_; obtain ⟨l, rr, hl, hr, rd⟩ := q101_); rotate_right 1; try clear o356_; (refine e03 o110_ fun q1 q2 r => ?_; try clear o110_)); rotate_right 1; (refine e02 o355_ fun q r => ?_; try clear o355_))
    · have ev : val ks θ m' = .nm m' := by rw [val_name hk q]; exact S.free m' q a4
      (refine e03 (labL_idx (L := L) hm9') fun i1 i2 i3 => ?_)
      have hnp : ∀ p ∈ ks, L p.1 ≠ L m := fun p hp w => by
        have := hv p.1 m' (hk.key p hp).2.1 hm9' (by rw [a2]; exact w)
        rw [ev, val_pair hk hp] at this; cases this
      have hn3 : ∀ a, 3 ≤ a → a < 5 → L a ≠ L m := fun a h1 h2 w => by
        have := hv a m' (by lia) hm9' (by rw [a2]; exact w)
        rw [ev, val_num hk h1 h2] at this; cases this
      rw [ev]
      refine ⟨strL [120 + (labL L).idxOf (L m')], pl_one (by lia), by rw [strL_len]; show 1 + 2 ≤ 5 * 1; decide, ?_, ?_, .inr ⟨m', q, a4, rfl, a2, by rw [a2]⟩⟩
      · exact .name hl9 (ht.ok hk) (a1.ok hk) r q (a1.name hk q).2.1 (labL_get L hm9') rfl (by lia)
      · exact .name hg (pairsOf_nil hk hnp) (labL_get L (by decide)) (hn3 3 (by decide) (by decide)) (labL_get L (by decide)) (hn3 4 (by decide) (by decide)) (by lia) (by rw [labL_get L (by lia), i2, a2]) (fun j hj => by rw [labL_get L (by lia), ← a2]; simpa using i3 j hj)
    · have ev : val ks θ m' = .num m' := by rw [val_num hk q1 q2]
      have hnp : ∀ p ∈ ks, L p.1 ≠ L m := fun p hp w => by
        have := hv p.1 m' (hk.key p hp).2.1 hm9' (by rw [a2]; exact w)
        rw [ev, val_pair hk hp] at this; cases this
      rw [ev]
      have hm34 : m' = 3 ∨ m' = 4 := by lia
      (refine Or.elim hm34 (fun z => ?_) (fun z => ?_); rotate_left 1; try clear hm34; rotate_right 1; try clear hm34)
      · subst z
        refine ⟨Str.ofString "h21", by decide +kernel, by decide, ?_, .num1 hg (pairsOf_nil hk hnp) (by rw [labL_get L (by decide), a2]), .inl ⟨by decide, fun i h => by cases h⟩⟩
        have : Str.ofString "h21" = Str.ofString "h" ++ Str.ofString (toString (7 * ((3 : Nat) : Int))) := by decide +kernel
        rw [this]
        exact .port (ht.ok hk) r (by decide) (by decide)
      · subst z
        have h34 : L 3 ≠ L m := fun w => by
          have := hv 3 4 (by decide) (by decide) (by rw [a2]; exact w)
          rw [val_num (n := 3) hk (by decide) (by decide), ev] at this
          injection this with this; cases this
        refine ⟨Str.ofString "h28", by decide +kernel, by decide, ?_, .num2 hg (pairsOf_nil hk hnp) (labL_get L (by decide)) h34 (by rw [labL_get L (by decide), a2]), .inl ⟨by decide, fun i h => by cases h⟩⟩
        have : Str.ofString "h28" = Str.ofString "h" ++ Str.ofString (toString (7 * ((4 : Nat) : Int))) := by decide +kernel
        rw [this]
        exact .port (ht.ok hk) r (by decide) (by decide)
    · have hkp := hk.key p hp
      have ev : val ks θ p.1 = .pr (val ks θ p.2.1) (val ks θ p.2.2) := val_pair hk hp
      rw [ev, ht_pr] at hh
      obtain ⟨n', rfl⟩ : ∃ n', n = n' + 1 := ⟨n - 1, by lia⟩
      (refine e15 (ih n' rfl l p.2.1 (by lia) hl) fun s1 w1 l1 t1 d1 _ => ?_)
      (refine e15 (ih n' rfl rr p.2.2 (by lia) hr) fun s2 w2 l2 t2 d2 _ => ?_)
      (refine e23 (pairsOf_cons hk hp a2) fun q rest hq q1 q2 => ?_)
      have hkq := hk.key q hq
      (refine e02 (hcl p hp q hq (by rw [a2, q1])) fun c1 c2 => ?_)
      have hlv : (val ks θ p.1).lv ≤ 16 := by
        have h1 := S.ht9 hk a1
        have h2 := S.few
        have h3 := (val ks θ p.1).lv_le
        have h4 : (val ks θ p.1).ht ≤ 4 := by split at h1 <;> lia
        have h5 : 2 ^ (val ks θ p.1).ht ≤ 2 ^ 4 := Nat.pow_le_pow_right (by decide) h4
        lia
      rw [ev, lv_pr] at hlv
      have k1 : (Str.ofString "(").length = 1 := by decide
      have k2 : (Str.ofString ")").length = 1 := by decide
      rw [ev]
      refine ⟨Str.ofString "(" ++ s1 ++ s2 ++ Str.ofString ")", pl_app (pl_app (pl_app (by decide +kernel) w1) w2) (by decide +kernel), ?_, .pair (ht.ok hk) rd (by lia) t1 t2, .pair (l := q.2.1) (r := q.2.2) hg q2 hq (by lia) (d1.cong ?_) (d2.cong ?_), .inl ⟨?_, fun i h => by cases h⟩⟩
      · rw [lv_pr, Str.length_append, Str.length_append, Str.length_append]; lia
      · rw [labL_get L (by lia), labL_get L (by lia), c1]
      · rw [labL_get L (by lia), labL_get L (by lia), c2]
      · rw [Str.length_append, Str.length_append, Str.length_append]; lia
  induction n with
  | zero => exact step 0 fun n' h => by cases h
  | succ n ih => exact step (n + 1) fun n' h => by injection h with h; subst h; exact ih
end Mine
end

section
open PySem PySem.W PyProof.Rows PySem.Calls PyProof.Rows.LCg
set_option Elab.async false
set_option linter.all false
set_option maxRecDepth 100000
set_option maxHeartbeats 2000000
namespace Mine
variable {ks : KT} {θ : Nat → Tree} {L : Nat → Int} {qs : List Bd} {lab : List Int}
theorem hget_app {ps qs : List (Str × Str)} {x v : Str} (h : hget ps x = some v) : hget (ps ++ qs) x = some v := by
  unfold hget at *
  (refine e12 (Option.map_eq_some_iff.mp h) fun p hp q180_ => ?_; subst q180_)
  rw [List.find?_append, hp]; rfl
theorem hget_hdel {ps : List (Str × Str)} {x y : Str} (h : Txt.lower x ≠ Txt.lower y) : hget (hdel ps x) y = hget ps y := by
  unfold hget hdel
  congr 1
  rw [List.find?_filter]
  refine find_congr fun p hp => ?_
  by_cases q : Txt.lower p.1 = Txt.lower y
  · have : Txt.lower p.1 ≠ Txt.lower x := fun z => h (z.symm.trans q)
    simp [q, Ne.symm h]
  · simp [q]
theorem hget_last {ps : List (Str × Str)} {x v y : Str} (h : Txt.lower x ≠ Txt.lower y) : hget (ps ++ [(x, v)]) y = hget ps y := by
  unfold hget
  rw [List.find?_append, List.find?_cons]
  have : (Txt.lower (x, v).1 == Txt.lower y) = false := by simpa using h
  rw [this]
  simp
theorem again_ex {ps0 : List (Str × Str)} : ∀ (nl : List Nat) (qs : List (Str × Str)), (∀ k ∈ nl, OkT (strL [k]) ∧ ∃ v, hget qs (strL [k]) = some v) → nl.Pairwise (fun a b => Txt.lower (strL [a]) ≠ Txt.lower (strL [b])) → Hok qs → qs.length + nl.length ≤ 100 →
    ∃ qs', Again nl qs qs' ∧ Hok qs' ∧ qs' = (qs.filter fun p => nl.all fun k => Txt.lower p.1 != Txt.lower (strL [k])) ++ nl.map fun k => (strL [k], (hget qs (strL [k])).getD (Str.ofString ""))
  | [], qs, _, _, hq, _ => ⟨qs, .nil, hq, by simp; exact (List.filter_eq_self.mpr fun _ _ => rfl).symm⟩
  | k :: nl, qs, h1, h2, hq, hl => by
    (refine e02 (h1 k (.head _)) fun o1 q102_ => ?_; obtain ⟨v, hv⟩ := q102_)
    have ov : OkT v := hget_ok hq hv
    have hd : (hdel qs (strL [k])).length ≤ qs.length := List.length_filter_le _ _
    have hq' : Hok (hdel qs (strL [k]) ++ [(strL [k], v)]) := by
      refine ⟨fun p hp => ?_, by rw [List.length_append, List.length_singleton]; simp only [List.length_cons] at hl; lia⟩
      (refine Or.elim (List.mem_append.mp hp) (fun hp => ?_) (fun hp => ?_))
      · exact hq.ok p (List.mem_filter.mp hp).1
      · rw [List.mem_singleton.mp hp]; exact ⟨o1, ov⟩
    have hne : ∀ a ∈ nl, Txt.lower (strL [k]) ≠ Txt.lower (strL [a]) := fun a ha => List.rel_of_pairwise_cons h2 ha
    have hgt : ∀ a ∈ nl, hget (hdel qs (strL [k]) ++ [(strL [k], v)]) (strL [a]) = hget qs (strL [a]) := fun a ha => by
      rw [hget_last (hne a ha), hget_hdel (hne a ha)]
    (refine e13 (again_ex (ps0 := ps0) nl (hdel qs (strL [k]) ++ [(strL [k], v)]) (fun a ha => ⟨(h1 a (.tail _ ha)).1, by rw [hgt a ha]; exact (h1 a (.tail _ ha)).2⟩) (List.Pairwise.of_cons h2) hq' (by rw [List.length_append, List.length_singleton]; simp only [List.length_cons] at hl; lia)) fun qs' a1 a2 a3 => ?_)
    refine ⟨qs', .cons o1 hq hv ov a1, a2, ?_⟩
    rw [a3, List.filter_append, List.map_cons, hv]
    have e1 : [(strL [k], v)].filter (fun p => nl.all fun a => Txt.lower p.1 != Txt.lower (strL [a])) = [(strL [k], v)] := by
      rw [List.filter_eq_self]
      intro p hp
      rw [List.mem_singleton.mp hp, List.all_eq_true]
      intro a ha; simpa using hne a ha
    have e2 : (hdel qs (strL [k])).filter (fun p => nl.all fun a => Txt.lower p.1 != Txt.lower (strL [a])) = qs.filter fun p => (k :: nl).all fun a => Txt.lower p.1 != Txt.lower (strL [a]) := by
      unfold hdel
      rw [List.filter_filter]
      congr 1
      funext p
      rw [List.all_cons, Bool.and_comm]
    have e3 : (nl.map fun a => (strL [a], (hget (hdel qs (strL [k]) ++ [(strL [k], v)]) (strL [a])).getD (Str.ofString ""))) = nl.map fun a => (strL [a], (hget qs (strL [a])).getD (Str.ofString "")) := by
      refine List.map_congr_left fun a ha => ?_
      rw [hgt a ha]
    rw [e1, e2, e3, List.append_assoc]
    rfl
theorem hget_low {ps : List (Str × Str)} {x y : Str} (h : Txt.lower x = Txt.lower y) : hget ps x = hget ps y := by unfold hget; rw [h]
noncomputable def kn : Nat → Nat
  | 0 => 88
  | 1 => 121
  | _ => 90
theorem kn_low {m : Nat} (h : m < 3) : Txt.lower (strL [kn m]) = strL [120 + m] := by
  match m, h with
  | 0, _ => exact lower_strL (by decide)
  | 1, _ => exact lower_strL (by decide)
  | 2, _ => exact lower_strL (by decide)
theorem kn_mem {k : Nat} (h : k ∈ [88, 121, 90]) : ∃ m, m < 3 ∧ k = kn m := by
  simp only [List.mem_cons, List.not_mem_nil, or_false] at h
  (refine Or.elim h (fun o357_ => ?_) (fun o358_ => ?_); rotate_left 1; try clear h; (refine Or.elim o358_ (fun o112_ => ?_) (fun o113_ => ?_); rotate_left 1; try clear o358_; subst o113_; rotate_right 1; try clear o358_; subst o112_); rotate_right 1; try clear h; subst o357_)
  · exact ⟨0, by decide, rfl⟩
  · exact ⟨1, by decide, rfl⟩
  · exact ⟨2, by decide, rfl⟩
theorem mem_names {ps : List (Str × Str)} {m : Nat} (h : m < 3) : kn m ∈ namesL ps ↔ (hget ps (strL [kn m])).isSome = true := by
  unfold namesL
  rw [List.mem_filter]
  refine ⟨fun q => q.2, fun q => ⟨?_, q⟩⟩
  match m, h with
  | 0, _ => decide
  | 1, _ => decide
  | 2, _ => decide
theorem names_ok {ps : List (Str × Str)} {k : Nat} (h : k ∈ namesL ps) : ∃ m, m < 3 ∧ k = kn m ∧ (hget ps (strL [k])).isSome = true := by
  unfold namesL at h
  rw [List.mem_filter] at h
  (refine e12 (kn_mem h.1) fun m h1 h2 => ?_)
  exact ⟨m, h1, h2, h.2⟩
theorem names_pw {ps : List (Str × Str)} : (namesL ps).Pairwise (fun a b => Txt.lower (strL [a]) ≠ Txt.lower (strL [b])) := by
  unfold namesL
  refine List.Pairwise.filter _ ?_
  have h0 := kn_low (m := 0) (by decide)
  have h1 := kn_low (m := 1) (by decide)
  have h2 := kn_low (m := 2) (by decide)
  simp only [kn] at h0 h1 h2
  refine List.Pairwise.cons ?_ (List.Pairwise.cons ?_ (List.Pairwise.cons ?_ .nil))
  · intro a ha
    simp only [List.mem_cons, List.not_mem_nil, or_false] at ha
    (refine Or.elim ha (fun o359_ => ?_) (fun o360_ => ?_); rotate_left 1; try clear ha; subst o360_; rotate_right 1; try clear ha; subst o359_)
    · rw [h0, h1]; decide
    · rw [h0, h2]; decide
  · intro a ha
    simp only [List.mem_cons, List.not_mem_nil, or_false] at ha
    rcases ha with rfl
    rw [h1, h2]; decide
  · intro a ha; cases ha
theorem find_names {l : List Nat} {f : Nat → Str} {t : Str} {k : Nat} (hk : k ∈ l) (hl : Txt.lower (strL [k]) = Txt.lower t) (hpw : l.Pairwise fun a b => Txt.lower (strL [a]) ≠ Txt.lower (strL [b])) : hget (l.map fun k => (strL [k], f k)) t = some (f k) := by
  induction l with
  | nil => cases hk
  | cons a l ih =>
    unfold hget
    rw [List.map_cons, List.find?_cons]
    (refine Or.elim (List.mem_cons.mp hk) (fun o361_ => ?_) (fun hk => ?_); subst o361_)
    · have : (Txt.lower (strL [k], f k).1 == Txt.lower t) = true := by simpa using hl
      rw [this]; rfl
    · have : (Txt.lower (strL [a], f a).1 == Txt.lower t) = false := by
        have := List.rel_of_pairwise_cons hpw hk
        rw [hl] at this; simpa using this
      rw [this]
      exact ih hk (List.Pairwise.of_cons hpw)
theorem find_names0 {l : List Nat} {f : Nat → Str} {t : Str} (h : ∀ k ∈ l, Txt.lower (strL [k]) ≠ Txt.lower t) : hget (l.map fun k => (strL [k], f k)) t = none := by
  unfold hget
  rw [Option.map_eq_none_iff, List.find?_eq_none]
  intro p hp
  (refine e12 (List.mem_map.mp hp) fun k hk q181_ => ?_; subst q181_)
  simpa using h k hk
theorem anew (hk : KsOk ks) (S : St ks L θ qs) : ∃ qs2, Again (namesL (qs.map Bd.p)) (again0 (qs.map Bd.p) (namesL (qs.map Bd.p))) qs2 ∧ Hok qs2 ∧ qs2.map (·.1) = (namesL (qs.map Bd.p)).map (fun k => strL [k]) ∧
    (∀ t m, Nd ks t m → find3 qs2 t = find3 (qs.map Bd.p) t) ∧ allPlain (again0 (qs.map Bd.p) (namesL (qs.map Bd.p))) := by
  have hq := S.hok hk
  have hnl : (namesL (qs.map Bd.p)).length ≤ 3 := List.length_filter_le _ _
  have hql : (qs.map Bd.p).length ≤ 3 := by rw [List.length_map]; exact S.few
  have hno : ∀ k ∈ namesL (qs.map Bd.p), OkT (strL [k]) := fun k h => by
    (refine e13 (names_ok h) fun m h1 q182_ _ => ?_; subst q182_)
    match m, h1 with
    | 0, _ => exact name_plain (by decide)
    | 1, _ => exact name_plain (by decide)
    | 2, _ => exact name_plain (by decide)
  have h9 : OkT (Str.ofString "229 (|||9|)") := by
    have : Str.ofString "229 (|||9|)" = strL [50, 50, 57, 32, 40, 124, 124, 124, 57, 124, 41] := by decide +kernel
    rw [this]; exact okT_of (by decide) (by decide)
  have hok0 : ∀ p ∈ again0 (qs.map Bd.p) (namesL (qs.map Bd.p)), OkT p.1 ∧ OkT p.2 := fun p hp => by
    (refine Or.elim (List.mem_append.mp hp) (fun hp => ?_) (fun hp => ?_))
    · exact hq.ok p hp
    · (refine e12 (List.mem_map.mp hp) fun k hk q183_ => ?_; subst q183_)
      exact ⟨hno k hk, h9⟩
  have hl0 : (again0 (qs.map Bd.p) (namesL (qs.map Bd.p))).length ≤ 6 := by
    rw [List.length_append, List.length_map (f := fun k => (strL [k], Str.ofString "229 (|||9|)"))]; lia
  have hg : ∀ k ∈ namesL (qs.map Bd.p), ∃ v, hget (qs.map Bd.p) (strL [k]) = some v ∧ hget (again0 (qs.map Bd.p) (namesL (qs.map Bd.p))) (strL [k]) = some v := fun k h => by
    (refine e13 (names_ok h) fun m h1 h2 h3 => ?_)
    (refine Exists.elim (Option.isSome_iff_exists.mp h3) fun v hv => ?_)
    exact ⟨v, hv, hget_app hv⟩
  (refine e13 (again_ex (ps0 := []) (namesL (qs.map Bd.p)) (again0 (qs.map Bd.p) (namesL (qs.map Bd.p))) (fun k h => ⟨hno k h, let ⟨v, _, h2⟩ := hg k h; ⟨v, h2⟩⟩) names_pw ⟨hok0, by lia⟩ (by lia)) fun qs2 a1 a2 a3 => ?_)
  have e0 : (again0 (qs.map Bd.p) (namesL (qs.map Bd.p))).filter (fun p => (namesL (qs.map Bd.p)).all fun k => Txt.lower p.1 != Txt.lower (strL [k])) = [] := by
    rw [List.filter_eq_nil_iff]
    intro p hp q
    rw [List.all_eq_true] at q
    (refine Or.elim (List.mem_append.mp hp) (fun hp => ?_) (fun hp => ?_))
    · (refine e12 (List.mem_map.mp hp) fun b hb q184_ => ?_; subst q184_)
      have hS := S.ok b hb
      have hlo : Txt.lower b.x = strL [120 + b.i] := (hS.2.1.name hk hS.1).2.1
      have hs : (hget (qs.map Bd.p) (strL [kn b.i])).isSome = true := by
        rw [hget_low (y := b.x) ((kn_low hS.1).trans hlo.symm)]
        unfold hget
        rw [Option.isSome_map, List.find?_isSome]
        exact ⟨b.p, List.mem_map.mpr ⟨b, hb, rfl⟩, by simp [Bd.p]⟩
      have := q (kn b.i) ((mem_names hS.1).mpr hs)
      rw [kn_low hS.1] at this
      simp [Bd.p, hlo] at this
    · (refine e12 (List.mem_map.mp hp) fun k hk q185_ => ?_; subst q185_)
      have := q k hk
      simp at this
  rw [e0, List.nil_append] at a3
  refine ⟨qs2, a1, a2, ?_, ?_, fun p hp => ⟨(hok0 p hp).1.pl, (hok0 p hp).2.pl⟩⟩
  · rw [a3, List.map_map]; rfl
  · have f1 : ∀ t m, Nd ks t m → find1 qs2 t = find1 (qs.map Bd.p) t := fun t m h => by
      unfold find1
      by_cases hm : m < 3
      · (refine e03 (h.name hk hm) fun n1 n2 n3 => ?_)
        rw [if_pos n1, if_pos n1]
        congr 1
        have elo : Txt.lower (strL [kn m]) = Txt.lower t := (kn_low hm).trans n2.symm
        rw [a3]
        by_cases hs : (hget (qs.map Bd.p) (strL [kn m])).isSome = true
        · rw [find_names ((mem_names hm).mpr hs) elo names_pw, ← hget_low elo]
          (refine e12 (hg _ ((mem_names hm).mpr hs)) fun v v1 v2 => ?_)
          rw [v1, v2]; rfl
        · rw [find_names0, ← hget_low elo]
          · exact (Option.not_isSome_iff_eq_none.mp hs).symm
          · intro k hkn e
            (refine e13 (names_ok hkn) fun m' h1 q186_ h3 => ?_; subst q186_)
            rw [← elo] at e
            rw [hget_low e] at h3
            exact hs h3
      · rw [if_neg (h.big hk (by lia)), if_neg (h.big hk (by lia))]
    intro t m h
    (refine e02 (fnd1_spec hk S h) fun s1 n1 => ?_)
    (refine e02 (fnd1_spec hk S n1) fun s2 n2 => ?_)
    unfold find3
    rw [f1 t m h, s1, f1 _ _ n1, s2, f1 _ _ n2]
end Mine
end

section
open PySem PySem.W PyProof.Rows PySem.Calls PyProof.Rows.LCg
set_option Elab.async false
set_option linter.all false
set_option maxRecDepth 100000
set_option maxHeartbeats 2000000
namespace Mine
variable {ks : KT} {θ : Nat → Tree} {L : Nat → Int} {qs : List Bd} {lab : List Int}
theorem le3 {a b w : Nat → Nat} (ha : ∀ i, a i ≤ 1) (h : ∀ i, i < 3 → a i = 1 → w i < 3 ∧ b (w i) = 1) (inj : ∀ i j, i < 3 → j < 3 → a i = 1 → a j = 1 → w i = w j → i = j) : a 0 + a 1 + a 2 ≤ b 0 + b 1 + b 2 := by
  have key : ∀ i, i < 3 → a i = 0 ∨ (a i = 1 ∧ w i = 0 ∧ b 0 = 1) ∨ (a i = 1 ∧ w i = 1 ∧ b 1 = 1) ∨ (a i = 1 ∧ w i = 2 ∧ b 2 = 1) := fun i hi => by
    have h1 := ha i
    by_cases e : a i = 1
    · (refine e02 (h i hi e) fun h2 h3 => ?_)
      have : w i = 0 ∨ w i = 1 ∨ w i = 2 := by lia
      (refine Or.elim this (fun q => ?_) (fun o362_ => ?_); rotate_left 1; try clear this; (refine Or.elim o362_ (fun q => ?_) (fun q => ?_); rotate_left 1; try clear o362_; rotate_right 1; try clear o362_); rotate_right 1; try clear this) <;> rw [q] at h3
      · exact .inr (.inl ⟨e, q, h3⟩)
      · exact .inr (.inr (.inl ⟨e, q, h3⟩))
      · exact .inr (.inr (.inr ⟨e, q, h3⟩))
    · exact .inl (by lia)
  have i01 := inj 0 1 (by decide) (by decide)
  have i02 := inj 0 2 (by decide) (by decide)
  have i12 := inj 1 2 (by decide) (by decide)
  have k0 := key 0 (by decide)
  have k1 := key 1 (by decide)
  have k2 := key 2 (by decide)
  clear key inj h ha
  (refine Or.elim k0 (fun k0 => ?_) (fun o363_ => ?_); rotate_left 1; try clear k0; (refine Or.elim o363_ (fun o114_ => ?_) (fun o115_ => ?_); rotate_left 1; try clear o363_; (refine Or.elim o115_ (fun o126_ => ?_) (fun o127_ => ?_); rotate_left 1; try clear o115_; rcases o127_ with ⟨k0, j0, l0⟩; rotate_right 1; try clear o115_; rcases o126_ with ⟨k0, j0, l0⟩); rotate_right 1; try clear o363_; (refine e03 o114_ fun k0 j0 l0 => ?_; try clear o114_)); rotate_right 1) <;> (refine Or.elim k1 (fun k1 => ?_) (fun o364_ => ?_); rotate_left 1; try clear k1; (refine Or.elim o364_ (fun o116_ => ?_) (fun o117_ => ?_); rotate_left 1; try clear o364_; (refine Or.elim o117_ (fun o128_ => ?_) (fun o129_ => ?_); rotate_left 1; try clear o117_; rcases o129_ with ⟨k1, j1, l1⟩; rotate_right 1; try clear o117_; rcases o128_ with ⟨k1, j1, l1⟩); rotate_right 1; try clear o364_; (refine e03 o116_ fun k1 j1 l1 => ?_; try clear o116_)); rotate_right 1) <;> (refine Or.elim k2 (fun k2 => ?_) (fun o365_ => ?_); rotate_left 1; try clear k2; (refine Or.elim o365_ (fun o118_ => ?_) (fun o119_ => ?_); rotate_left 1; try clear o365_; (refine Or.elim o119_ (fun o130_ => ?_) (fun o131_ => ?_); rotate_left 1; try clear o119_; rcases o131_ with ⟨k2, j2, l2⟩; rotate_right 1; try clear o119_; rcases o130_ with ⟨k2, j2, l2⟩); rotate_right 1; try clear o365_; (refine e03 o118_ fun k2 j2 l2 => ?_; try clear o118_)); rotate_right 1) <;> lia
theorem self_len (ds : Nat → Str) : (dueSelf ds).length = (if ds 0 = strL [120] then 1 else 0) + (if ds 1 = strL [121] then 1 else 0) + (if ds 2 = strL [122] then 1 else 0) := by
  have e : dueSelf ds = (List.range 3).filter fun k => ds k == strL [120 + k] := by
    unfold dueSelf
    refine List.filter_congr fun k hk => ?_
    rw [xyz_item (List.mem_range.mp hk)]
  rw [e, show List.range 3 = [0, 1, 2] from rfl]
  simp only [List.filter_cons, List.filter_nil]
  by_cases h0 : ds 0 = strL [120] <;> by_cases h1 : ds 1 = strL [121] <;> by_cases h2 : ds 2 = strL [122] <;> simp [h0, h1, h2]
theorem count_ok (hk : KsOk ks) (S : St ks L θ qs) {ds : Nat → Str} (hv : ∀ a b, a < 9 → b < 9 → L a = L b → val ks θ a = val ks θ b)
    (hd : ∀ k, k < 3 → ((ds k).length ≠ 1 ∧ ∀ i, val ks θ k ≠ .nm i) ∨ ∃ i, i < 3 ∧ (∀ q ∈ qs, q.i ≠ i) ∧ val ks θ k = .nm i ∧ L i = L k ∧ ds k = strL [120 + (labL L).idxOf (L k)]) :
    ((qs.map Bd.p).length : Int) = 3 - ((dueSelf ds).length : Int) := by
  rw [List.length_map, self_len]
  have hs := cnt_sum qs fun q hq => (S.ok q hq).1
  have c0 := cnt_le 0 qs S.nd
  have c1 := cnt_le 1 qs S.nd
  have c2 := cnt_le 2 qs S.nd
  let a : Nat → Nat := fun i => 1 - qs.countP (·.i == i)
  let b : Nat → Nat := fun k => if ds k = strL [120 + k] then 1 else 0
  have ha : ∀ i, a i ≤ 1 := fun i => Nat.sub_le _ _
  have hb : ∀ i, b i ≤ 1 := fun i => by show (if _ then 1 else 0) ≤ 1; split <;> decide
  have un : ∀ i, a i = 1 → ∀ q ∈ qs, q.i ≠ i := fun i h q hq e => by
    have : 0 < qs.countP (·.i == i) := List.countP_pos_iff.mpr ⟨q, hq, by simp [e]⟩
    have : 1 - qs.countP (·.i == i) = 1 := h
    lia
  have nu : ∀ i, (∀ q ∈ qs, q.i ≠ i) → a i = 1 := fun i h => by
    have : qs.countP (·.i == i) = 0 := by
      rw [List.countP_eq_zero]; intro q hq; simpa using h q hq
    show 1 - _ = 1
    rw [this]
  have hlow : ∀ i, i < 3 → a i = 1 → ∃ k, k = (labL L).idxOf (L i) ∧ k < 3 ∧ L k = L i ∧ b k = 1 ∧ val ks θ k = .nm i := fun i hi h => by
    (refine e03 (labL_idx (L := L) (i := i) (by lia)) fun w1 w2 _ => ?_)
    have hvi : val ks θ i = .nm i := by rw [val_name hk hi]; exact S.free i hi (un i h)
    have hvk := hv _ i (by lia) (by lia) w2
    refine ⟨_, rfl, by lia, w2, ?_, by rw [hvk, hvi]⟩
    (refine Or.elim (hd _ (show (labL L).idxOf (L i) < 3 by lia)) (fun o366_ => ?_) (fun o367_ => ?_); rotate_left 1; (refine e15 o367_ fun i' h1 h2 h3 h4 h5 => ?_; try clear o367_); rotate_right 1; (refine e02 o366_ fun _ q => ?_; try clear o366_))
    · exact absurd (by rw [hvk, hvi]) (q i)
    · show (if _ then 1 else 0) = 1
      rw [if_pos]
      rw [h5, w2]
  have le1 : a 0 + a 1 + a 2 ≤ b 0 + b 1 + b 2 := by
    refine le3 (w := fun i => (labL L).idxOf (L i)) ha (fun i hi h => ?_) fun i j hi hj h h' e => ?_
    · (refine e15 (hlow i hi h) fun k e h1 _ h2 _ => ?_)
      show (labL L).idxOf (L i) < 3 ∧ b ((labL L).idxOf (L i)) = 1
      rw [← e]; exact ⟨h1, h2⟩
    · (refine e15 (hlow i hi h) fun k e1 _ _ _ h1 => ?_)
      (refine e15 (hlow j hj h') fun k' e2 _ _ _ h2 => ?_)
      have : k = k' := by rw [e1, e2]; exact e
      rw [← this, h1] at h2
      injection h2
  have hup : ∀ k, k < 3 → b k = 1 → ∃ i, i < 3 ∧ a i = 1 ∧ val ks θ k = .nm i ∧ (labL L).idxOf (L i) = k := fun k hk3 h => by
    have e : ds k = strL [120 + k] := by
      by_cases q : ds k = strL [120 + k]
      · exact q
      · have : b k = 0 := if_neg q
        lia
    (refine Or.elim (hd k hk3) (fun o368_ => ?_) (fun o369_ => ?_); rotate_left 1; (refine e15 o369_ fun i h1 h2 h3 h4 h5 => ?_; try clear o369_); rotate_right 1; (refine e02 o368_ fun q _ => ?_; try clear o368_))
    · rw [e] at q; exact absurd rfl q
    · refine ⟨i, h1, nu i h2, h3, ?_⟩
      rw [e] at h5
      have := strL_inj h5
      injection this with this
      rw [h4]; lia
  have le2 : b 0 + b 1 + b 2 ≤ a 0 + a 1 + a 2 := by
    let g : Nat → Nat := fun k => if h : k < 3 ∧ b k = 1 then Classical.choose (hup k h.1 h.2) else 0
    have hg : ∀ k, (hk : k < 3) → (hb : b k = 1) → g k < 3 ∧ a (g k) = 1 ∧ val ks θ k = .nm (g k) ∧ (labL L).idxOf (L (g k)) = k := fun k hk hb => by
      have := Classical.choose_spec (hup k hk hb)
      have e : g k = Classical.choose (hup k hk hb) := dif_pos ⟨hk, hb⟩
      rw [e]; exact this
    refine le3 (w := g) hb (fun k hk h => ⟨(hg k hk h).1, (hg k hk h).2.1⟩) fun i j hi hj h h' e => ?_
    rw [← (hg i hi h).2.2.2, ← (hg j hj h').2.2.2, e]
  have eb : (if ds 0 = strL [120] then 1 else 0) + (if ds 1 = strL [121] then 1 else 0) + (if ds 2 = strL [122] then 1 else 0) = b 0 + b 1 + b 2 := rfl
  rw [eb]
  have ea : a 0 + a 1 + a 2 = 3 - qs.length := by
    show (1 - _) + (1 - _) + (1 - _) = _
    rw [← hs]; lia
  have := S.few
  lia
end Mine
end

section
open PySem PySem.W PyProof.Rows PySem.Calls PyProof.Rows.LCg
set_option Elab.async false
set_option linter.all false
set_option maxRecDepth 100000
set_option maxHeartbeats 2000000
namespace Mine
variable {ks : KT} {L : Nat → Int}
theorem labL_getD (L : Nat → Int) {n : Nat} (h : n < 9) : (labL L).getD n 0 = L n := by
  rw [List.getD_eq_getElem?_getD, labL_get L h]; rfl
theorem cl_iff (hk : KsOk ks) : clB (labL L) ks = true ↔ ClashDue ks L := by
  unfold clB ClashDue
  rw [labL_getD L (by decide), labL_getD L (by decide), Bool.or_eq_true, beq_iff_eq]
  refine or_congr Iff.rfl ?_
  have e : (clL (labL L) ks).isEmpty = true ↔ ∀ p ∈ ks, ¬ (L p.1 = L 3 ∨ L p.1 = L 4) := by
    unfold clL
    rw [List.isEmpty_iff, List.filter_eq_nil_iff]
    refine forall_congr' fun p => forall_congr' fun hp => not_congr ?_
    rw [labL_getD L (by decide), labL_getD L (by decide), labL_getD L (hk.key p hp).2.1]
    simp only [List.any_cons, List.any_nil, Bool.or_false, Bool.or_eq_true, beq_iff_eq]
    exact or_congr ⟨Eq.symm, Eq.symm⟩ ⟨Eq.symm, Eq.symm⟩
  rw [Bool.not_eq_true']
  constructor
  · intro h
    apply Classical.byContradiction
    intro q
    have := e.mpr fun p hp z => q ⟨p, hp, z⟩
    rw [this] at h; exact tf h
  · (intro q64_; (refine e12 q64_ fun p hp z => ?_; try clear q64_))
    cases h : (clL (labL L) ks).isEmpty with
    | false => rfl
    | true => exact absurd z (e.mp h p hp)
theorem any_contains (l : List Int) (x : Int) : l.any (· == x) = l.contains x := by
  rw [Bool.eq_iff_iff, List.any_eq_true, List.contains_iff_mem]
  refine ⟨fun ⟨y, hy, e⟩ => by rw [← beq_iff_eq.mp e]; exact hy, fun h => ⟨x, h, by simp⟩⟩
theorem dn_eq (hk : KsOk ks) : ∀ s, dnN (labL L) ks s = doneF ks L (labL L) s
  | 0 => rfl
  | s + 1 => by
    show (labL L).filter (fun x => (dnF (labL L) ks (dnN (labL L) ks s) x).isEmpty) = (labL L).filter _
    rw [dn_eq hk s]
    refine List.filter_congr fun x _ => ?_
    unfold dnF
    rw [Bool.eq_iff_iff, List.isEmpty_iff, List.filter_eq_nil_iff, List.all_eq_true]
    refine forall_congr' fun p => forall_congr' fun hp => ?_
    have h1 := hk.key p hp
    rw [labL_getD L h1.2.1, labL_getD L (by lia), labL_getD L (by lia), any_contains, any_contains]
    cases (L p.1 == x && !((doneF ks L (labL L) s).contains (L p.2.1) && (doneF ks L (labL L) s).contains (L p.2.2))) <;> simp
theorem rg_iff (hk : KsOk ks) : (!(rgL (labL L) (dnN (labL L) ks 5)).isEmpty) = true ↔ RingDue ks L (labL L) := by
  unfold rgL RingDue
  rw [dn_eq hk, Bool.not_eq_true']
  have e : ((labL L).filter fun x => !((doneF ks L (labL L) 5).any (· == x))).isEmpty = true ↔ ∀ x ∈ labL L, x ∈ doneF ks L (labL L) 5 := by
    rw [List.isEmpty_iff, List.filter_eq_nil_iff]
    refine forall_congr' fun x => forall_congr' fun hx => ?_
    rw [any_contains]
    simp
  constructor
  · intro h
    apply Classical.byContradiction
    intro q
    have := e.mpr fun x hx => Classical.byContradiction fun z => q ⟨x, hx, z⟩
    rw [this] at h; exact tf h
  · (intro q65_; (refine e12 q65_ fun x hx z => ?_; try clear q65_))
    cases h : ((labL L).filter fun x => !((doneF ks L (labL L) 5).any (· == x))).isEmpty with
    | false => rfl
    | true => exact absurd (e.mp h x hx) z
theorem ne_reply {l : List Nat} {r : List Nat} (h : l = 50 :: r) : (strL l != lit "error_reply") = true := by
  have e : lit "error_reply" = strL [101, 114, 114, 111, 114, 95, 114, 101, 112, 108, 121] := by decide +kernel
  rw [e, h, bne_iff_ne]
  intro q
  have := strL_inj q
  injection this with this; cases this
theorem term_nd {cs : Nat → Nat} (hcs : ∀ k, k < 4 → cs k < 30) {k : Nat} (h : k < 4) (b : Int) : ∃ t : List Nat, termS (cs k : Int) b = strL t ∧ (t.all plainCh = true ∧ t.length ≤ 100) ∧ (strL t != lit "error_reply") = true ∧ Nd (kidsUp cs 4) (strL t) (nodeOf cs k) := by
  have hc := hcs k h
  unfold termS nodeOf
  by_cases h5 : cs k < 5
  · rw [if_pos (by lia), if_pos h5]
    (refine e12 (leafS_tab h5 b) fun l hl e => ?_)
    have hf := tab_fact h5 l hl
    exact ⟨l, e, ⟨hf.1, by lia⟩, hf.2.2, .leaf h5 hl⟩
  · rw [if_neg (by lia), if_neg h5]
    have e1 := div5 h5
    have e2 := mod5 h5
    rw [e1, e2]
    (refine e12 (leafS_tab (a := (cs k - 5) / 5) (by lia) (b + 1)) fun l hl el => ?_)
    (refine e12 (leafS_tab (a := (cs k - 5) % 5) (by lia) (b + 2)) fun r hr er => ?_)
    have fl := tab_fact (a := (cs k - 5) / 5) (by lia) l hl
    have fr := tab_fact (a := (cs k - 5) % 5) (by lia) r hr
    rw [el, er]
    have hm : (5 + k, ((cs k - 5) / 5, (cs k - 5) % 5)) ∈ kidsUp cs 4 := by
      have key : ∀ j, k < j → (5 + k, ((cs k - 5) / 5, (cs k - 5) % 5)) ∈ kidsUp cs j := by
        intro j
        induction j with
        | zero => intro h; lia
        | succ j ih =>
          intro hj
          rw [kidsUp_succ]
          (refine Or.elim (Nat.lt_or_ge k j) (fun z => ?_) (fun z => ?_))
          · exact List.mem_append_left _ (ih z)
          · have : k = j := by lia
            subst this
            rw [if_neg h5]; exact List.mem_append_right _ (.head _)
      exact key 4 h
    have hN := Nd.pair (ks := kidsUp cs 4) hm hl hr
    have hlen := pairL_len l r
    rw [pairS_strL] at hN ⊢
    exact ⟨pairL l r, rfl, ⟨pairL_plain fl.1 fr.1, by lia⟩, ne_reply (r := _) rfl, hN⟩
theorem sol_top (hk : KsOk ks) (hcl : ∀ p ∈ ks, ∀ q ∈ ks, L p.1 = L q.1 → L p.2.1 = L q.2.1 ∧ L p.2.2 = L q.2.2) {lab : List Int} (hlab : ∀ n, n < 9 → L n ∈ lab) {n0 n1 n2 n3 : Nat} {t0 t1 t2 t3 : List Nat} (h0 : Nd ks (strL t0) n0) (h1 : Nd ks (strL t1) n1) (h2 : Nd ks (strL t2) n2) (h3 : Nd ks (strL t3) n3)
    (p0 : t0.all plainCh = true ∧ t0.length ≤ 100) (p1 : t1.all plainCh = true ∧ t1.length ≤ 100) (p2 : t2.all plainCh = true ∧ t2.length ≤ 100) (p3 : t3.all plainCh = true ∧ t3.length ≤ 100) (e0 : (strL t0 != lit "error_reply") = true) (e2 : (strL t2 != lit "error_reply") = true) (l0 : L n0 = L n2) (l1 : L n1 = L n3) :
    ∃ n en ps' td', Sol [] n [(pairS (strL t0) (strL t1), pairS (strL t2) (strL t3))] en ps' td' ∧ Res ks L lab n0 n1 n2 n3 en ps' := by
  have S : St ks L (fun i => .nm i) [] := ⟨fun q h => (by cases h), .nil, .nil, fun q h => (by cases h), fun _ _ _ => rfl⟩
  have hlv : ∀ {t : Str} {m : Nat}, Nd ks t m → (val ks (fun i => .nm i) m).lv ≤ 2 := fun {t m} h => by
    have a1 := S.ht9 hk h
    have a2 := (val ks (fun i => .nm i) m).lv_le
    have a3 : (val ks (fun i => .nm i) m).ht ≤ 1 := by
      simp only [List.length_nil] at a1
      split at a1
      · exact Nat.le_trans a1 (by decide)
      · exact a1
    have a4 := Nat.pow_le_pow_right (show 1 ≤ 2 by decide) a3
    lia
  (refine e42 (sol_ex hk hcl hlab (n0 := n0) (n1 := n1) (n2 := n2) (n3 := n3) 3 _ (fun i => .nm i) [] [It.mk (strL t0) (strL t2) n0 n2, It.mk (strL t1) (strL t3) n1 n3] (by decide) (Nat.le_refl _) S (fun z hz => by
    (refine Or.elim (List.mem_cons.mp hz) (fun o120_ => ?_) (fun hz => ?_); subst o120_)
    · exact ⟨h0, h2, l0⟩
    · rw [List.mem_singleton.mp hz]; exact ⟨h1, h3, l1⟩) (by
    rw [sumF_two]
    have b0 := hlv h0
    have b1 := hlv h1
    show _ ≤ 4
    dsimp only; lia) (by rw [List.countP_eq_length_filter]; exact List.length_filter_le _ _) (fun θ' _ he => ⟨he _ (.head _), he _ (.tail _ (.head _))⟩)) fun n en ps' td' hS hR => ?_)
  refine ⟨n + 1, en, ps', td', ?_, hR⟩
  have f : ∀ x : Str, find3 [] x = x := fun x => by
    have f1 : ∀ x : Str, find1 [] x = x := fun x => by unfold find1; split <;> rfl
    unfold find3; rw [f1, f1, f1]
  have ok : ∀ {a b : List Nat}, (a.all plainCh = true ∧ a.length ≤ 100) → (b.all plainCh = true ∧ b.length ≤ 100) → OkT (pairS (strL a) (strL b)) := fun ha hb => by
    rw [pairS_strL]
    exact okT_of (pairL_plain ha.1 hb.1) (by rename_i a b; have := pairL_len a b; lia)
  refine Sol.go (td := []) (ps1 := []) (add := [(strL t0, strL t2), (strL t1, strL t3)]) (S.hok hk) (fun p hp => ?_) (by decide) (kx := .pair (strL t0) (strL t1)) (ky := .pair (strL t2) (strL t3)) ?_ ?_ ?_ hS
  · rw [List.nil_append] at hp
    rw [List.mem_singleton.mp hp]
    exact ⟨ok p0 p1, ok p2 p3⟩
  · rw [f]; exact rd_pair p0.1 (by lia) (by lia) e0
  · rw [f]; exact rd_pair p2.1 (by lia) (by lia) e2
  · rw [f, f]; exact .as (.inr rfl) (.pairs (h0.ok hk) (h1.ok hk) (h2.ok hk) (h3.ok hk))
end Mine
end

section
open PySem PySem.W PyProof.Rows PySem.Calls PyProof.Rows.LCg
set_option Elab.async false
set_option linter.all false
set_option maxRecDepth 100000
set_option maxHeartbeats 2000000
namespace Mine
theorem St.ht_all {ks : KT} {L : Nat → Int} {θ : Nat → Tree} {qs : List Bd} (hk : KsOk ks) (S : St ks L θ qs) (k : Nat) : (val ks θ k).ht ≤ 4 := by
  have hf := S.few
  have hl : ∀ a, (leafV θ a).ht ≤ 3 := fun a => by
    unfold leafV
    split
    · exact Nat.le_trans (S.ht3 hk a (by assumption)) hf
    · exact Nat.zero_le _
  unfold val
  split
  · rename_i p _
    rw [ht_pr]
    have h1 := hl p.2.1
    have h2 := hl p.2.2
    lia
  · have := hl k; lia
noncomputable def faultsL (ks : KT) (lab : List Int) : List Str :=
  if !(rgL lab (dnN lab ks 5)).isEmpty then (if clB lab ks then [Str.ofString "clash"] else []) ++ [Str.ofString "ring"] else (if clB lab ks then [Str.ofString "clash"] else [])
theorem law_front {ns : List Int} (hlen : ns.length ≤ 63) {a0 a1 a2 a3 a4 : Int} (he : cellsAt ns = [a0, a1, a2, a3, a4]) {cs : Nat → Nat} {tl : Nat → List Nat} {m n : Nat} {lab : List Int} {en : Str} {ps' td' : List (Str × Str)}
    (h0 : a0.fmod 30 = (cs 0 : Int)) (h1 : a1.fmod 30 = (cs 1 : Int)) (h2 : a2.fmod 30 = (cs 2 : Int)) (h3 : a3.fmod 30 = (cs 3 : Int)) (hcs : ∀ k, k < 4 → cs k < 30)
    (htl : ∀ k : Nat, k < 4 → termS (cs k : Int) (a4.fmod 6 + (k : Int)) = strL (tl k)) (htp : ∀ k, k < 4 → (tl k).all plainCh = true ∧ (tl k).length ≤ 100)
    (hS : Sol [] n [(pairS (strL (tl 0)) (strL (tl 1)), pairS (strL (tl 2)) (strL (tl 3)))] en ps' td') (hC : Cls (kidsUp cs 4) (labL fun n => (n : Int)) m [(nodeOf cs 0, nodeOf cs 2), (nodeOf cs 1, nodeOf cs 3)] lab) (h9 : lab.length = 9)
    {c : Amb} {a : Addr} {vs : List Value} {H'' : List MO} (hn1 : 1 ≤ c.n) (hR : Room (lawC c) 20) (hb : c.base.IsList a vs.toArray) (hI : IntsAre vs ns)
    (k : ∀ t₀, 1 ≤ t₀ → TS (lawC c) (lawE c) (lawX t₀ en lab (dnN lab (kidsUp cs 4) 5)) (lawH [.int a0, .int a1, .int a2, .int a3, .int a4] ps' (kidsUp cs 4) (faultsL (kidsUp cs 4) lab)) ((lawL c.w).body.drop 19) (.ret (.bool true)) [] H'') :
    TS (lawC c) (lawE c) [(Str.ofString "script", .con (.ref a))] [] (lawL c.w).body (.ret (.bool true)) [] H'' := by
  have hk := kidsUp_ok hcs
  refine law_1 hn1 hb hI hlen ?_
  rw [he]
  refine law_2 hn1 hR h0 h1 h2 h3 hcs htl htp ?_
  refine law_3 hn1 hR hcs hS hC ?_
  refine law_4 hn1 hR hk h9 fun t₀ ht => ?_
  refine law_5a hn1 hR hk h9 ?_
  refine law_5b hn1 hR h9 (by split <;> decide) ?_
  refine law_6a hn1 hR fun i far hi hf0 hf1 => ?_
  refine law_6b hn1 hR hi hf0 hf1 ?_
  refine law_6c hn1 hR ?_
  exact k t₀ ht
theorem law_all {ns : List Int} (hlen : ns.length ≤ 63) : ∃ H'', ∀ {c : Amb} {a : Addr} {vs : List Value}, 1 ≤ c.n → Room (lawC c) 20 → c.base.IsList a vs.toArray → IntsAre vs ns →
    TS (lawC c) (lawE c) [(Str.ofString "script", .con (.ref a))] [] (lawL c.w).body (.ret (.bool true)) [] H'' := by
  have h5 : (cellsAt ns).length = 5 := cellsUp_len ns [0, 1, 12, 19, 0] ns.length
  obtain ⟨a0, a1, a2, a3, a4, he⟩ : ∃ a0 a1 a2 a3 a4, cellsAt ns = [a0, a1, a2, a3, a4] := by
    generalize cellsAt ns = l at h5
    match l, h5 with
    | [a0, a1, a2, a3, a4], _ => exact ⟨a0, a1, a2, a3, a4, rfl⟩
  have hfm : ∀ a : Int, a.fmod 30 = ((a.fmod 30).toNat : Int) ∧ (a.fmod 30).toNat < 30 := fun a => by
    have : 0 ≤ a.fmod 30 ∧ a.fmod 30 < 30 := by rw [Int.fmod_eq_emod_of_nonneg _ (by lia)]; lia
    lia
  obtain ⟨cs, c0, c1, c2, c3⟩ : ∃ cs : Nat → Nat, cs 0 = (a0.fmod 30).toNat ∧ cs 1 = (a1.fmod 30).toNat ∧ cs 2 = (a2.fmod 30).toNat ∧ cs 3 = (a3.fmod 30).toNat :=
    ⟨fun k => match k with | 0 => (a0.fmod 30).toNat | 1 => (a1.fmod 30).toNat | 2 => (a2.fmod 30).toNat | _ => (a3.fmod 30).toNat, rfl, rfl, rfl, rfl⟩
  have hcs : ∀ k, k < 4 → cs k < 30 := fun k hk => by
    match k, hk with
    | 0, _ => rw [c0]; exact (hfm a0).2
    | 1, _ => rw [c1]; exact (hfm a1).2
    | 2, _ => rw [c2]; exact (hfm a2).2
    | 3, _ => rw [c3]; exact (hfm a3).2
  have hk := kidsUp_ok hcs
  have hT : ∀ k : Nat, ∃ t : List Nat, k < 4 → termS (cs k : Int) (a4.fmod 6 + (k : Int)) = strL t ∧ (t.all plainCh = true ∧ t.length ≤ 100) ∧ (strL t != lit "error_reply") = true ∧ Nd (kidsUp cs 4) (strL t) (nodeOf cs k) := fun k => by
    by_cases h : k < 4
    · (refine Exists.elim (term_nd hcs h (a4.fmod 6 + (k : Int))) fun t ht => ?_)
      exact ⟨t, fun _ => ht⟩
    · exact ⟨[], fun q => absurd q h⟩
  let tl : Nat → List Nat := fun k => Classical.choose (hT k)
  have htl : ∀ k : Nat, k < 4 → termS (cs k : Int) (a4.fmod 6 + (k : Int)) = strL (tl k) ∧ ((tl k).all plainCh = true ∧ (tl k).length ≤ 100) ∧ (strL (tl k) != lit "error_reply") = true ∧ Nd (kidsUp cs 4) (strL (tl k)) (nodeOf cs k) := fun k h => Classical.choose_spec (hT k) h
  have hN : ∀ k, k < 4 → nodeOf cs k < 9 := fun k h => (htl k h).2.2.2.lt hk
  (refine e23 (cls_ex hk (n0 := nodeOf cs 0) (n1 := nodeOf cs 1) (n2 := nodeOf cs 2) (n3 := nodeOf cs 3) 72 (fun n => (n : Int)) [(nodeOf cs 0, nodeOf cs 2), (nodeOf cs 1, nodeOf cs 3)] (by
    have : dist (fun n => (n : Int)) ≤ 9 := by unfold dist; exact List.countP_le_length
    simp only [List.length_cons, List.length_nil]; lia) (by decide) (fun n hn => by lia) (fun z hz => by
    (refine Or.elim (List.mem_cons.mp hz) (fun o121_ => ?_) (fun hz => ?_); subst o121_)
    · exact ⟨hN 0 (by decide), hN 2 (by decide)⟩
    · rw [List.mem_singleton.mp hz]; exact ⟨hN 1 (by decide), hN 3 (by decide)⟩) (fun f hf => ⟨fun a b _ _ e => by
      have : a = b := by lia
      rw [this], fun z hz => by
      (refine Or.elim (List.mem_cons.mp hz) (fun o122_ => ?_) (fun hz => ?_); subst o122_)
      · exact hf.1
      · rw [List.mem_singleton.mp hz]; exact hf.2.1⟩) (fun f _ h => ⟨h _ (.head _), h _ (.tail _ (.head _)), fun p hp q hq e => by
      have : p = q := hk.uniq hp hq (by lia)
      rw [this]; exact ⟨rfl, rfl⟩⟩)) fun m L hC hrange hL => ?_)
  have hlab : ∀ n, n < 9 → L n ∈ labL L := fun n hn => List.mem_map.mpr ⟨n, List.mem_range.mpr hn, rfl⟩
  have hlab' : ∀ x ∈ labL L, ∃ n, n < 9 ∧ L n = x := fun x hx => by
    (refine e12 (List.mem_map.mp hx) fun n hn e => ?_)
    exact ⟨n, List.mem_range.mp hn, e⟩
  (refine e42 (sol_top hk hL.cl hlab (htl 0 (by decide)).2.2.2 (htl 1 (by decide)).2.2.2 (htl 2 (by decide)).2.2.2 (htl 3 (by decide)).2.2.2 (htl 0 (by decide)).2.1 (htl 1 (by decide)).2.1 (htl 2 (by decide)).2.1 (htl 3 (by decide)).2.1 (htl 0 (by decide)).2.2.1 (htl 2 (by decide)).2.2.1 hL.e0 hL.e1) fun n en ps' td' hS hRes => ?_)
  have h9 : (labL L).length = 9 := by simp [labL]
  have front := fun {c : Amb} {a : Addr} {vs : List Value} {H'' : List MO} => law_front hlen he (cs := cs) (tl := tl) (by rw [c0]; exact (hfm a0).1) (by rw [c1]; exact (hfm a1).1) (by rw [c2]; exact (hfm a2).1) (by rw [c3]; exact (hfm a3).1) hcs (fun k h => (htl k h).1) (fun k h => (htl k h).2.1) hS hC h9 (c := c) (a := a) (vs := vs) (H'' := H'')
  have clo : PyData.strOk (Str.ofString "clash") = true ∧ PyData.strOk (Str.ofString "ring") = true := by decide +kernel
  have hcl := cl_iff (L := L) hk
  have hrg := rg_iff (L := L) hk
  by_cases hf : faultsL (kidsUp cs 4) (labL L) = []
  · have hncl : ¬ ClashDue (kidsUp cs 4) L := fun q => by
      unfold faultsL at hf
      rw [hcl.mpr q] at hf
      split at hf <;> exact cn hf
    have hnrg : ¬ RingDue (kidsUp cs 4) L (labL L) := fun q => by
      unfold faultsL at hf
      rw [hrg.mpr q] at hf
      rw [if_pos rfl] at hf
      exact absurd hf (by simp)
    (refine Or.elim hRes (fun o373_ => ?_) (fun o374_ => ?_); rotate_left 1; try clear hRes; (refine Or.elim o374_ (fun o123_ => ?_) (fun o124_ => ?_); rotate_left 1; try clear o374_; (refine e02 o124_ fun q103_ q105_ => ?_; try clear o124_; subst q103_; obtain ⟨θ, qs, rfl, S, v0, v1⟩ := q105_); rotate_right 1; try clear o374_; (refine e02 o123_ fun _ q => ?_; try clear o123_)); rotate_right 1; try clear hRes; (refine e02 o373_ fun _ q => ?_; try clear o373_))
    · exact absurd q hncl
    · exact absurd q hnrg
    · have hv : ∀ a b, a < 9 → b < 9 → L a = L b → val (kidsUp cs 4) θ a = val (kidsUp cs 4) θ b := fun a b ha hb e => hL.vals hk v0 v1 ha hb e
      (refine e15 (anew hk S) fun qs2 hA hq2 hkeys hfind hpl => ?_)
      have hnd : ∀ k, k < 3 → ∃ t : Str, t = strL [if k = 1 then 89 else 120 + k] ∧ Nd (kidsUp cs 4) t k := fun k h => by
        match k, h with
        | 0, _ => exact ⟨_, rfl, .leaf (a := 0) (by decide) (.head _)⟩
        | 1, _ => exact ⟨_, rfl, .leaf (a := 1) (by decide) (.tail _ (.head _))⟩
        | 2, _ => exact ⟨_, rfl, .leaf (a := 2) (by decide) (.head _)⟩
      have hD : ∀ k : Nat, ∃ s : Str, k < 3 → s.cps.all plainCh = true ∧ Told qs2 (labL L) 4 (strL [if k = 1 then 89 else 120 + k]) s ∧ Due (labL L) (kidsUp cs 4) 4 k s ∧ ((s.length ≠ 1 ∧ ∀ i, val (kidsUp cs 4) θ k ≠ .nm i) ∨ ∃ i, i < 3 ∧ (∀ q ∈ qs, q.i ≠ i) ∧ val (kidsUp cs 4) θ k = .nm i ∧ L i = L k ∧ s = strL [120 + (labL L).idxOf (L k)]) := fun k => by
        by_cases h : k < 3
        · (refine e12 (hnd k h) fun t q187_ ht => ?_; subst q187_)
          (refine e15 (told_due hk S hfind hL.cl hv 4 _ k (by rw [val_name hk h]; have h1 := S.ht3 hk k h; have h2 := S.few; lia) ht) fun s w1 _ w3 w4 w5 => ?_)
          exact ⟨s, fun _ => ⟨w1, w3, w4, w5⟩⟩
        · exact ⟨Str.ofString "", fun q => absurd q h⟩
      let ds : Nat → Str := fun k => Classical.choose (hD k)
      have hds : ∀ k, k < 3 → (ds k).cps.all plainCh = true ∧ Told qs2 (labL L) 4 (strL [if k = 1 then 89 else 120 + k]) (ds k) ∧ Due (labL L) (kidsUp cs 4) 4 k (ds k) ∧ (((ds k).length ≠ 1 ∧ ∀ i, val (kidsUp cs 4) θ k ≠ .nm i) ∨ ∃ i, i < 3 ∧ (∀ q ∈ qs, q.i ≠ i) ∧ val (kidsUp cs 4) θ k = .nm i ∧ L i = L k ∧ ds k = strL [120 + (labL L).idxOf (L k)]) := fun k h => Classical.choose_spec (hD k) h
      have hcount := count_ok hk S (ds := ds) hv fun k h => (hds k h).2.2.2
      refine ⟨lawG [.int a0, .int a1, .int a2, .int a3, .int a4] (qs.map Bd.p) (kidsUp cs 4) [] qs2 ++ [MO.list ((qs.map Bd.p).map pairV)] ++ [MO.list ((qs.map Bd.p).map pairV)] ++ [.idict (some (.obj 14)), .inst 12, .list []], fun {c a vs} hn1 hR hb hI => front hn1 hR hb hI fun t₀ ht => ?_⟩
      rw [hf]
      refine law_7n hn1 hR ?_
      refine law_8a (ds := ds) hn1 hR ht h9 hk (S.hok hk) (fun k h => (hds k h).2.2.1) ?_
      refine law_8b hn1 hR (S.hok hk) (Nat.le_trans (List.length_filter_le _ _) (by decide)) hpl ?_
      refine law_8c hn1 hR hA ?_
      refine law_8d hn1 hR ht hq2 (fun v hv => ?_) hkeys (fun k hkn => ?_) (fun k h => plain_ok (hds k h).1) (fun p hp => ?_) ?_
      · (refine e12 (hlab' v hv) fun n hn q188_ => ?_; subst q188_)
        have := hrange n hn; lia
      · (refine e13 (names_ok hkn) fun m h1 q189_ _ => ?_; subst q189_)
        match m, h1 with
        | 0, _ => exact name_plain (by decide)
        | 1, _ => exact name_plain (by decide)
        | 2, _ => exact name_plain (by decide)
      · simp only [List.mem_cons, List.not_mem_nil, or_false] at hp
        (refine Or.elim hp (fun o375_ => ?_) (fun o376_ => ?_); rotate_left 1; try clear hp; (refine Or.elim o376_ (fun o125_ => ?_) (fun o126_ => ?_); rotate_left 1; try clear o376_; subst o126_; rotate_right 1; try clear o376_; subst o125_); rotate_right 1; try clear hp; subst o375_)
        · exact (hds 0 (by decide)).2.1
        · exact (hds 1 (by decide)).2.1
        · exact (hds 2 (by decide)).2.1
      · exact law_8e hn1 hR (S.hok hk) hcount
  · have hmem : en ∈ faultsL (kidsUp cs 4) (labL L) := by
      (refine Or.elim hRes (fun o377_ => ?_) (fun o378_ => ?_); rotate_left 1; try clear hRes; (refine Or.elim o378_ (fun o127_ => ?_) (fun o128_ => ?_); rotate_left 1; try clear o378_; (refine e02 o128_ fun q106_ q108_ => ?_; try clear o128_; subst q106_; obtain ⟨θ, qs, rfl, S, v0, v1⟩ := q108_); rotate_right 1; try clear o378_; (refine e02 o127_ fun q109_ q => ?_; try clear o127_; subst q109_)); rotate_right 1; try clear hRes; (refine e02 o377_ fun q50_ q => ?_; try clear o377_; subst q50_))
      · unfold faultsL
        rw [hcl.mpr q]
        split <;> simp
      · unfold faultsL
        rw [hrg.mpr q, if_pos rfl]
        simp
      · have hv : ∀ a b, a < 9 → b < 9 → L a = L b → val (kidsUp cs 4) θ a = val (kidsUp cs 4) θ b := fun a b ha hb e => hL.vals hk v0 v1 ha hb e
        have n1 := no_clash hk hv
        have n2 := no_ring hk hlab' hlab hv fun k _ => S.ht_all hk k
        refine absurd ?_ hf
        unfold faultsL
        have e1 : clB (labL L) (kidsUp cs 4) = false := by
          cases q : clB (labL L) (kidsUp cs 4) with
          | false => rfl
          | true => exact absurd (hcl.mp q) n1
        have e2 : (!(rgL (labL L) (dnN (labL L) (kidsUp cs 4) 5)).isEmpty) = false := by
          cases q : (!(rgL (labL L) (dnN (labL L) (kidsUp cs 4) 5)).isEmpty) with
          | false => rfl
          | true => exact absurd (hrg.mp q) n2
        rw [e1, e2]; rfl
    have hshape : ∃ fl x, faultsL (kidsUp cs 4) (labL L) = fl ++ [x] ∧ ∀ y ∈ fl ++ [x], PyData.strOk y = true := by
      clear hmem
      revert hf
      unfold faultsL
      cases clB (labL L) (kidsUp cs 4) <;> cases (!(rgL (labL L) (dnN (labL L) (kidsUp cs 4) 5)).isEmpty) <;> intro hf
      · exact absurd rfl hf
      · exact ⟨[], Str.ofString "ring", rfl, fun y hy => by rw [List.mem_singleton.mp hy]; exact clo.2⟩
      · exact ⟨[], Str.ofString "clash", rfl, fun y hy => by rw [List.mem_singleton.mp hy]; exact clo.1⟩
      · refine ⟨[Str.ofString "clash"], Str.ofString "ring", rfl, fun y hy => ?_⟩
        (refine Or.elim (List.mem_cons.mp hy) (fun o379_ => ?_) (fun hy => ?_); subst o379_)
        · exact clo.1
        · rw [List.mem_singleton.mp hy]; exact clo.2
    (refine e22 hshape fun fl x ef hok => ?_; try clear hshape)
    refine ⟨lawH [.int a0, .int a1, .int a2, .int a3, .int a4] ps' (kidsUp cs 4) (fl ++ [x]), fun {c a vs} hn1 hR hb hI => front hn1 hR hb hI fun t₀ ht => ?_⟩
    rw [ef] at hmem ⊢
    exact law_7y hn1 hR hok hmem
end Mine
end
section
open PySem PySem.W PyProof.Rows PySem.Calls PyProof.Rows.LCg
set_option Elab.async false
set_option linter.all false
set_option maxRecDepth 100000
set_option maxHeartbeats 8000000
namespace Mine
theorem holds.tw10066566674380323332 : True := trivial
theorem holds.tw10071743356415266081 : True := trivial
theorem holds.tw10240100896771907615 : True := trivial
theorem holds.tw10269081998898121243 : True := trivial
theorem holds.tw10280545108713110612 : True := trivial
theorem holds.tw10292701021901942622 : True := trivial
theorem holds.tw10447927361281507451 : True := trivial
theorem holds.tw10494946348260405530 : True := trivial
theorem holds.tw10531532615022067580 : True := trivial
theorem holds.tw10576265454180977796 : True := trivial
theorem holds.tw10587580826675096554 : True := trivial
theorem holds.tw10595842591828190984 : True := trivial
theorem holds.tw10637851664137882224 : True := trivial
theorem holds.tw10677865647760817919 : True := trivial
theorem holds.tw10679687220464918932 : True := trivial
theorem holds.tw10705619171732726748 : True := trivial
theorem holds.tw10705761992013847755 : True := trivial
theorem holds.tw10725578544039427095 : True := trivial
theorem holds.tw10726778698580467152 : True := trivial
theorem holds.tw10817008591213730988 : True := trivial
theorem holds.tw10828986214106111531 : True := trivial
theorem holds.tw10843207457187830352 : True := trivial
theorem holds.tw10859938921441162988 : True := trivial
theorem holds.tw10894570999934473159 : True := trivial
theorem holds.tw1092734292537931370 : True := trivial
theorem holds.tw10973056549479156102 : True := trivial
theorem holds.tw11037822914523747621 : True := trivial
theorem holds.tw11040456503202229835 : True := trivial
theorem holds.tw11223116819087169764 : True := trivial
theorem holds.tw11311999394344832113 : True := trivial
theorem holds.tw11319453509113102234 : True := trivial
theorem holds.tw11322816463052944642 : True := trivial
theorem holds.tw11341941285841758863 : True := trivial
theorem holds.tw11413208387583891290 : True := trivial
theorem holds.tw11450275943994455990 : True := trivial
theorem holds.tw11502601298335438083 : True := trivial
theorem holds.tw11612728935029869629 : True := trivial
theorem holds.tw11619669790576578751 : True := trivial
theorem holds.tw11723004889028688699 : True := trivial
theorem holds.tw1180276462324527112 : True := trivial
theorem holds.tw11822188140940861840 : True := trivial
theorem holds.tw11866763835798034582 : True := trivial
theorem holds.tw11968577826497805164 : True := trivial
theorem holds.tw12056596633878991817 : True := trivial
theorem holds.tw12084871131945615253 : True := trivial
theorem holds.tw12135579543755162760 : True := trivial
theorem holds.tw1213666046027356511 : True := trivial
theorem holds.tw12160635655254385198 : True := trivial
theorem holds.tw12467034654032377186 : True := trivial
theorem holds.tw12468101337765408714 : True := trivial
theorem holds.tw12528141070781557109 : True := trivial
theorem holds.tw12540800736699631050 : True := trivial
theorem holds.tw12547771131358643713 : True := trivial
theorem holds.tw12553914923479104506 : True := trivial
theorem holds.tw12589338554700419491 : True := trivial
theorem holds.tw12632932662738783937 : True := trivial
theorem holds.tw12633084752571091873 : True := trivial
theorem holds.tw12657093848384798476 : True := trivial
theorem holds.tw12698916279152862973 : True := trivial
theorem holds.tw1272921112123746405 : True := trivial
theorem holds.tw12762722769849151566 : True := trivial
theorem holds.tw12774209864397607762 : True := trivial
theorem holds.tw12788872388335264594 : True := trivial
theorem holds.tw12808162357026388105 : True := trivial
theorem holds.tw13002855754428957212 : True := trivial
theorem holds.tw13108245259352980691 : True := trivial
theorem holds.tw1311399786705062619 : True := trivial
theorem holds.tw13130249910395747862 : True := trivial
theorem holds.tw1316056555746827224 : True := trivial
theorem holds.tw13208604148985916543 : True := trivial
theorem holds.tw13244084474598619184 : True := trivial
theorem holds.tw13279658242049567510 : True := trivial
theorem holds.tw13306226422529918579 : True := trivial
theorem holds.tw13341946137322399123 : True := trivial
theorem holds.tw13370180491053348 : True := trivial
theorem holds.tw13563289320671947111 : True := trivial
theorem holds.tw13564983018704479910 : True := trivial
theorem holds.tw1357463484097335404 : True := trivial
theorem holds.tw13634962284440896081 : True := trivial
theorem holds.tw13651502964188933756 : True := trivial
theorem holds.tw1382383790286775375 : True := trivial
theorem holds.tw1389151227800987198 : True := trivial
theorem holds.tw13942211991455542721 : True := trivial
theorem holds.tw14012497318314112844 : True := trivial
theorem holds.tw14040500308302212198 : True := trivial
theorem holds.tw14054693376921006050 : True := trivial
theorem holds.tw14064534554856164141 : True := trivial
theorem holds.tw14083834280242248106 : True := trivial
theorem holds.tw14149781006570564392 : True := trivial
theorem holds.tw142377125942736700 : True := trivial
theorem holds.tw14271935136423247726 : True := trivial
theorem holds.tw14374762386000251392 : True := trivial
theorem holds.tw14411328915609312922 : True := trivial
theorem holds.tw14432740918813763817 : True := trivial
theorem holds.tw14456359579513077766 : True := trivial
theorem holds.tw1446027475299390936 : True := trivial
theorem holds.tw14509501042702846084 : True := trivial
theorem holds.tw14571696787620697854 : True := trivial
theorem holds.tw14622814637172382776 : True := trivial
theorem holds.tw14642846902033847964 : True := trivial
theorem holds.tw14691085348537605332 : True := trivial
theorem holds.tw14747351113905286367 : True := trivial
theorem holds.tw150268843892594924 : True := trivial
theorem holds.tw15043986215568586124 : True := trivial
theorem holds.tw15305512045591798990 : True := trivial
theorem holds.tw15349486494167490861 : True := trivial
theorem holds.tw15402825562841796884 : True := trivial
theorem holds.tw15493915963290111440 : True := trivial
theorem holds.tw15566814792845459997 : True := trivial
theorem holds.tw15654153127513851752 : True := trivial
theorem holds.tw15663057623668237757 : True := trivial
theorem holds.tw15733542881966949079 : True := trivial
theorem holds.tw15785218014132313688 : True := trivial
theorem holds.tw15814798929938293467 : True := trivial
theorem holds.tw15864543535133235901 : True := trivial
theorem holds.tw15941426914562918035 : True := trivial
theorem holds.tw15969937429085165904 : True := trivial
theorem holds.tw15985840036639034899 : True := trivial
theorem holds.tw15987345220168432620 : True := trivial
theorem holds.tw16049930973857864354 : True := trivial
theorem holds.tw16054779937910247328 : True := trivial
theorem holds.tw16124510186991490168 : True := trivial
theorem holds.tw16139409775219458943 : True := trivial
theorem holds.tw1621136399060944247 : True := trivial
theorem holds.tw16239030619513480838 : True := trivial
theorem holds.tw16278335412425988479 : True := trivial
theorem holds.tw16281141667863336784 : True := trivial
theorem holds.tw1631527390235973345 : True := trivial
theorem holds.tw1639197193820686003 : True := trivial
theorem holds.tw16478504620199068264 : True := trivial
theorem holds.tw16568243084613897719 : True := trivial
theorem holds.tw16716973418849355883 : True := trivial
theorem holds.tw1672651397029140864 : True := trivial
theorem holds.tw16762735861678686087 : True := trivial
theorem holds.tw16801115162389100519 : True := trivial
theorem holds.tw16939745714101447976 : True := trivial
theorem holds.tw16955119412671694080 : True := trivial
theorem holds.tw17076291190057227869 : True := trivial
theorem holds.tw17148229171239856432 : True := trivial
theorem holds.tw17294395744611713098 : True := trivial
theorem holds.tw17476224472650253806 : True := trivial
theorem holds.tw17500814259130102135 : True := trivial
theorem holds.tw17533166617710000329 : True := trivial
theorem holds.tw17597196502641442581 : True := trivial
theorem holds.tw17631178891982236634 : True := trivial
theorem holds.tw17642598502550569490 : True := trivial
theorem holds.tw17647985033660283594 : True := trivial
theorem holds.tw17657828636456154573 : True := trivial
theorem holds.tw17765825090018352961 : True := trivial
theorem holds.tw17779192219718171531 : True := trivial
theorem holds.tw17822619038779606285 : True := trivial
theorem holds.tw18064630312452696005 : True := trivial
theorem holds.tw18073075610102796595 : True := trivial
theorem holds.tw18078616723997116376 : True := trivial
theorem holds.tw18145382148040430673 : True := trivial
theorem holds.tw18173914834931495973 : True := trivial
theorem holds.tw18202751451028033538 : True := trivial
theorem holds.tw1833173380454153921 : True := trivial
theorem holds.tw185807328385624810 : True := trivial
theorem holds.tw1882270145967814011 : True := trivial
theorem holds.tw1929177832787310992 : True := trivial
theorem holds.tw1986877004247180340 : True := trivial
theorem holds.tw2003794701753356343 : True := trivial
theorem holds.tw2084331650109322480 : True := trivial
theorem holds.tw2156681307112010326 : True := trivial
theorem holds.tw2160012875989923789 : True := trivial
theorem holds.tw2167384251425162797 : True := trivial
theorem holds.tw2180479604254433311 : True := trivial
theorem holds.tw2207817973478938216 : True := trivial
theorem holds.tw2277698456845511444 : True := trivial
theorem holds.tw2335221107431800076 : True := trivial
theorem holds.tw2395783193375807797 : True := trivial
theorem holds.tw2422663375537807432 : True := trivial
theorem holds.tw2451063411067222376 : True := trivial
theorem holds.tw2490583276235294983 : True := trivial
theorem holds.tw2511256036297951264 : True := trivial
theorem holds.tw2516783204404619966 : True := trivial
theorem holds.tw2682973687022302978 : True := trivial
theorem holds.tw2697976716319701033 : True := trivial
theorem holds.tw2720468260678641542 : True := trivial
theorem holds.tw2752272122444995253 : True := trivial
theorem holds.tw2781561513384061212 : True := trivial
theorem holds.tw2837089220486691207 : True := trivial
theorem holds.tw2912959965789975038 : True := trivial
theorem holds.tw2936799095737714382 : True := trivial
theorem holds.tw2946744036017948005 : True := trivial
theorem holds.tw2963349702327202441 : True := trivial
theorem holds.tw298297018594106725 : True := trivial
theorem holds.tw303617358959260456 : True := trivial
theorem holds.tw3081346186701454755 : True := trivial
theorem holds.tw3083665863380995925 : True := trivial
theorem holds.tw3090211538801252385 : True := trivial
theorem holds.tw3092724735428445279 : True := trivial
theorem holds.tw3099108374667923230 : True := trivial
theorem holds.tw3117193011312037209 : True := trivial
theorem holds.tw3152325903591766520 : True := trivial
theorem holds.tw3232270311777372273 : True := trivial
theorem holds.tw3256209041318659551 : True := trivial
theorem holds.tw3378624336152846145 : True := trivial
theorem holds.tw3381435865837020940 : True := trivial
theorem holds.tw3393808461323943489 : True := trivial
theorem holds.tw341249449185904685 : True := trivial
theorem holds.tw3529921767576855348 : True := trivial
theorem holds.tw3864012138097595758 : True := trivial
theorem holds.tw3937267528351423324 : True := trivial
theorem holds.tw4046193847619289583 : True := trivial
theorem holds.tw4055776374113360070 : True := trivial
theorem holds.tw4077311611012620791 : True := trivial
theorem holds.tw4079574721724423606 : True := trivial
theorem holds.tw4132201380793018340 : True := trivial
theorem holds.tw4137054072099604216 : True := trivial
theorem holds.tw4215914425719463216 : True := trivial
theorem holds.tw4223227193242380489 : True := trivial
theorem holds.tw4252685499439207924 : True := trivial
theorem holds.tw4286360187039589740 : True := trivial
theorem holds.tw4302478151189881795 : True := trivial
theorem holds.tw4320952357017371039 : True := trivial
theorem holds.tw4374827463496512255 : True := trivial
theorem holds.tw4381346726385406224 : True := trivial
theorem holds.tw4381757428849502282 : True := trivial
theorem holds.tw4399152324972305773 : True := trivial
theorem holds.tw4408763645494598628 : True := trivial
theorem holds.tw4422276619278600727 : True := trivial
theorem holds.tw4480811336153992742 : True := trivial
theorem holds.tw4485590747672999114 : True := trivial
theorem holds.tw4500180452004054980 : True := trivial
theorem holds.tw4529002996912422141 : True := trivial
theorem holds.tw4624323801304008105 : True := trivial
theorem holds.tw4702539438339769474 : True := trivial
theorem holds.tw4717937361131159733 : True := trivial
theorem holds.tw4753448620645791293 : True := trivial
theorem holds.tw4772410448533662562 : True := trivial
theorem holds.tw4796666493748621973 : True := trivial
theorem holds.tw4905061745869718969 : True := trivial
theorem holds.tw4921510776622977656 : True := trivial
theorem holds.tw5006882278849481289 : True := trivial
theorem holds.tw5015485144833937494 : True := trivial
theorem holds.tw5031978486770369989 : True := trivial
theorem holds.tw5078402968320093544 : True := trivial
theorem holds.tw5099458221760260784 : True := trivial
theorem holds.tw5109313578336810904 : True := trivial
theorem holds.tw5112738896828158680 : True := trivial
theorem holds.tw5225467491883748592 : True := trivial
theorem holds.tw5295917329084666069 : True := trivial
theorem holds.tw5323918697378788693 : True := trivial
theorem holds.tw5324194830887427225 : True := trivial
theorem holds.tw5350216910946226995 : True := trivial
theorem holds.tw5498966250228494579 : True := trivial
theorem holds.tw5583946556138506119 : True := trivial
theorem holds.tw5588498093969417903 : True := trivial
theorem holds.tw5619803957841784048 : True := trivial
theorem holds.tw5635654813233479639 : True := trivial
theorem holds.tw5747684920607356772 : True := trivial
theorem holds.tw576298715544257586 : True := trivial
theorem holds.tw5763553328388235881 : True := trivial
theorem holds.tw5915465848944024539 : True := trivial
theorem holds.tw5923573193019433623 : True := trivial
theorem holds.tw5926597645957970899 : True := trivial
theorem holds.tw5932082505621288647 : True := trivial
theorem holds.tw5948040445239067262 : True := trivial
theorem holds.tw5959074840488112208 : True := trivial
theorem holds.tw6166532556598395850 : True := trivial
theorem holds.tw6216033271563703469 : True := trivial
theorem holds.tw6278366128872770721 : True := trivial
theorem holds.tw63030109126827207 : True := trivial
theorem holds.tw6307330118970589470 : True := trivial
theorem holds.tw6357344898813262543 : True := trivial
theorem holds.tw6424660084863691381 : True := trivial
theorem holds.tw6460966521098074893 : True := trivial
theorem holds.tw6479322844328308420 : True := trivial
theorem holds.tw6606875086121380550 : True := trivial
theorem holds.tw6674158366018852832 : True := trivial
theorem holds.tw6735552807121987811 : True := trivial
theorem holds.tw6786176836235729759 : True := trivial
theorem holds.tw6816380694822836728 : True := trivial
theorem holds.tw6817751937963910627 : True := trivial
theorem holds.tw685634667276709000 : True := trivial
theorem holds.tw6896159741398044905 : True := trivial
theorem holds.tw6902667361888063293 : True := trivial
theorem holds.tw6987649320729488474 : True := trivial
theorem holds.tw7033360832409044607 : True := trivial
theorem holds.tw7048567159050434060 : True := trivial
theorem holds.tw7129523546110730894 : True := trivial
theorem holds.tw7221694943082674061 : True := trivial
theorem holds.tw7235909688915465346 : True := trivial
theorem holds.tw7258431392514884226 : True := trivial
theorem holds.tw7366336091430424897 : True := trivial
theorem holds.tw7400771686186127474 : True := trivial
theorem holds.tw7442186320969616419 : True := trivial
theorem holds.tw7459122314025714673 : True := trivial
theorem holds.tw7516632072315021061 : True := trivial
theorem holds.tw7873036012977236159 : True := trivial
theorem holds.tw7877780744568003191 : True := trivial
theorem holds.tw7885888744534978006 : True := trivial
theorem holds.tw7944191787301449481 : True := trivial
theorem holds.tw7991519602905016326 : True := trivial
theorem holds.tw8006095370074002437 : True := trivial
theorem holds.tw8049511868366338171 : True := trivial
theorem holds.tw8086972369959518483 : True := trivial
theorem holds.tw8087273147054526846 : True := trivial
theorem holds.tw8105830805119860317 : True := trivial
theorem holds.tw8143335708233088440 : True := trivial
theorem holds.tw8217837808669207805 : True := trivial
theorem holds.tw8218819101457601776 : True := trivial
theorem holds.tw8253004272172430988 : True := trivial
theorem holds.tw8260078842695283502 : True := trivial
theorem holds.tw8277820557490507997 : True := trivial
theorem holds.tw8324913547053779211 : True := trivial
theorem holds.tw8551410553514715252 : True := trivial
theorem holds.tw8564859838321607590 : True := trivial
theorem holds.tw8575535491628544125 : True := trivial
theorem holds.tw8789113547377566482 : True := trivial
theorem holds.tw8827755016177155863 : True := trivial
theorem holds.tw8868445881999480663 : True := trivial
theorem holds.tw8903297777125119442 : True := trivial
theorem holds.tw9039863090174473464 : True := trivial
theorem holds.tw9072656965561520583 : True := trivial
theorem holds.tw9107170298555381705 : True := trivial
theorem holds.tw9140063382869304120 : True := trivial
theorem holds.tw9157471666820141079 : True := trivial
theorem holds.tw9160933379109621080 : True := trivial
theorem holds.tw9232459349045140238 : True := trivial
theorem holds.tw9250495785965993271 : True := trivial
theorem holds.tw9260842090827677427 : True := trivial
theorem holds.tw9279739060811778729 : True := trivial
theorem holds.tw9321796208036801940 : True := trivial
theorem holds.tw9327718836232418737 : True := trivial
theorem holds.tw9367411864662104596 : True := trivial
theorem holds.tw9408521175777228426 : True := trivial
theorem holds.tw9441326970708011783 : True := trivial
theorem holds.tw945861476033566700 : True := trivial
theorem holds.tw949623864930693503 : True := trivial
theorem holds.tw9518972631687950247 : True := trivial
theorem holds.tw9569093901706499007 : True := trivial
theorem holds.tw96072713605637463 : True := trivial
theorem holds.tw9638990691586225099 : True := trivial
theorem holds.tw9647410926604887880 : True := trivial
theorem holds.tw9784731065822230439 : True := trivial
theorem holds.tw9816476011544392670 : True := trivial
theorem holds.tw9866653766423218390 : True := trivial
theorem holds.tw9878063783549791415 : True := trivial
theorem holds.tw99148262030102190 : True := trivial
set_option Elab.async true
theorem holds : PySem.Challenge.rw_kl0209_01.Holds := by
  w_on; o_law; k_head; (case hw => w_witness2)
  k_fill
  intro w s₀ s₁ mg mb G Y fa o pm cd doc dV kV ho hd' hcd hD hmg hg args vals as hpre hlay hrd hwl hlo
  have KX := kIn_of Y
  refine Ground.open G ?_
  intro T B D TE TW
  have hD1 := Dflts.none hD rfl
  subst hD1
  have hD2 := Dflts.noKw hD
  subst hD2
  clear hD hmg Y B D TE TW
  wrow_args hpre hlay hrd hwl hlo
  all_goals refine enter_call ?_
  rename_i ns _ _ _ _ _ _ _ a vs _ hL _ _ _ hI _ hlen _
  obtain ⟨H'', hH⟩ := law_all (ns := ns) (by lia)
  refine top_enter (x := Str.ofString "script") (lv := 20) (r := .bool true) (H' := H'') KX T ho hd' hcd (BindsTo.of_eq rfl) rfl (by rfl) (by decide) ?_ ?_
  · intro c hw hn hb hR
    subst hw
    exact hH (Nat.le_of_eq hn.symm) hR (by rw [hb]; exact hL) hI
  · intro rv h' tk' fz ρ hrv hkeep
    cases hrv
    refine GoodW.toG ⟨.inl ⟨.bool true, ofPy (PyData.bool true), [], rfl, fun cls => rfl, ?_, ?_, fun hu => ?_⟩, hkeep, rfl, hg⟩
    · exact .bool true
    · have hw := w_eq_bool (R := []) (e := { args := [ofPy (PyData.list (List.map PyData.int ns))], res := some (.bool true), after := [ofPy (PyData.list (List.map PyData.int ns))] }) (a := .res) (b := .lit (.bool true)) (k := true) (l := true) (w_res rfl) w_lit
      show (WShape.has [] (.bool true) .bool && WTm.holds [] (.eq .res (.lit (.bool true))) { args := [ofPy (PyData.list (List.map PyData.int ns))], res := some (.bool true), after := [ofPy (PyData.list (List.map PyData.int ns))] }) = true
      unfold WTm.holds
      rw [hw]
      rfl
    · exact ⟨List.nodup_nil, fun a ha => by cases ha⟩
end Mine
end

theorem PySem.Challenge.cw_kl0209_01_holds : PySem.Challenge.rw_kl0209_01.Holds := by
  exact Mine.holds
